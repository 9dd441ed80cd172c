import PyProof.Rows.All
import Wide.All
import OpenK.AllK
import Wide.FinOn
import Lean
import PySem.Challenge.RW_lj0027_01
open PySem PySem.W PyProof.Rows PySem.Spec PySem.Calls
set_option linter.all false
set_option linter.unusedVariables false
set_option Elab.async false
namespace Mine
section
set_option maxRecDepth 100000
set_option maxHeartbeats 0
noncomputable def topT (st : SharedT → Thread → Option (SharedT × Thread)) (thr : Thread → Bool) (ok : Thread → Bool) : Nat → SharedT → Thread → Option SharedT
  | 0, _, _ => none
  | n + 1, s, t => match thr t with
    | true => some s
    | false => match ok t with
      | false => none
      | true => match st s t with
        | some (s', t') => topT st thr ok n s' t'
        | none => none
theorem topT_run {tb : String → Option Builtin} {p : Program} {w : World} {n₀ : Nat} {ann : Option Value} : ∀ {n : Nat} {s s' : SharedT} {t : Thread}, topT (stepT (denote tb) p w) through (stepOk n₀ ann) n s t = some s' → topRun tb p w n₀ ann n s.abs t = some s'.abs
  | 0, _, _, _, h => nomatch h
  | n + 1, s, s', t, h => by
    unfold topT at h
    unfold topRun
    cases a : through t with
    | true => rw [a] at h; exact congrArg (fun x => Option.map SharedT.abs x) h
    | false =>
      rw [a] at h
      cases b : stepOk n₀ ann t with
      | false => rw [b] at h; exact nomatch h
      | true =>
        rw [b] at h
        cases c : stepT (denote tb) p w s t with
        | none => rw [c] at h; exact nomatch h
        | some r => rw [c] at h; rw [stepT_spec c]; exact topT_run h
noncomputable def bootT (P : Params) : BT := ((boot_heap P).objs.toList.zipIdx.foldl (fun t o => t.ins o.2 o.1) .nil)
noncomputable def bootS (w : World) (os : OsState) : SharedT := ⟨bootT w.params, 11, (boot_heap w.params).life, Array.mk [], boot_drawn, boot_toks, os⟩
theorem bootS_abs (w : World) (os : OsState) : (bootS w os).abs = ⟨boot_heap w.params, Array.mk [], boot_drawn, boot_toks, os⟩ := by kernel_rfl
noncomputable abbrev pw := PySem.Challenge.pw_lj0027_01
theorem left_shot {q : Program} {loose : List Str} {Xt : Shared → Bool} {α : Type} {Yf : Shared → α} {Ya : World → α} {N M : Nat} {ann : Option Value}
    (e : opening pw = plainProg pw.main.scope.names) (hN : Nat.ble 600 N = true) (f : ∀ s, fenceModules? pw s = some s)
    (size : ∀ w : World, ((boot_heap w.params).isNs mainGlobals, (boot_heap w.params).objs.size, (boot_heap w.params).nsMap mainGlobals "__annotations__") = (true, 11, ann)) (le : Nat.ble M N = true)
    (runA : ∀ (w : World) (os : OsState), Option.map (fun s => staticsOk (importedModules PySem.Challenge.pw_lj0027_01.main.body) (boot_heap w.params) (SharedT.abs s).heap && namesBound PySem.Challenge.pw_lj0027_01 (SharedT.abs s).heap && gensDone (SharedT.abs s) && laidKept (boot_heap w.params) (SharedT.abs s).heap) (topT (stepT (denote treeTable) PySem.Challenge.pw_lj0027_01 w) through (stepOk 11 ann) M ⟨((boot_heap w.params).objs.toList.zipIdx.foldl (fun t o => t.ins o.2 o.1) .nil), 11, (boot_heap w.params).life, Array.mk [], boot_drawn, boot_toks, os⟩ (topStub PySem.Challenge.pw_lj0027_01)) = some true)
    (runB : ∀ (w : World) (os : OsState), Option.map (fun s => openSeen q loose (importedModules PySem.Challenge.pw_lj0027_01.main.body) Xt true (SharedT.abs s)) (topT (stepT (denote treeTable) PySem.Challenge.pw_lj0027_01 w) through (stepOk 11 ann) M ⟨((boot_heap w.params).objs.toList.zipIdx.foldl (fun t o => t.ins o.2 o.1) .nil), 11, (boot_heap w.params).life, Array.mk [], boot_drawn, boot_toks, os⟩ (topStub PySem.Challenge.pw_lj0027_01)) = some (openGood q loose))
    (runC : ∀ (w : World) (os : OsState), Option.map (fun s => Yf (SharedT.abs s)) (topT (stepT (denote treeTable) PySem.Challenge.pw_lj0027_01 w) through (stepOk 11 ann) M ⟨((boot_heap w.params).objs.toList.zipIdx.foldl (fun t o => t.ins o.2 o.1) .nil), 11, (boot_heap w.params).life, Array.mk [], boot_drawn, boot_toks, os⟩ (topStub PySem.Challenge.pw_lj0027_01)) = some (Ya w)) : LeftO pw q loose Xt Yf Ya N := fun w => by
  obtain ⟨⟨h, gs, d, k, os⟩, e1, e2⟩ := Option.map_eq_some_iff.mp (boot_open e hN f w)
  obtain ⟨rfl, rfl, rfl, rfl⟩ : h = boot_heap w.params ∧ gs = Array.mk [] ∧ d = boot_drawn ∧ k = boot_toks := by simpa using e2
  obtain ⟨z1, z2, z3⟩ : _ ∧ _ ∧ _ := by simpa only [Prod.mk.injEq] using size w
  obtain ⟨sT, r1, l1⟩ := Option.map_eq_some_iff.mp (runA w os)
  obtain ⟨sB, rB, l2⟩ := Option.map_eq_some_iff.mp (runB w os)
  obtain ⟨sC, rC, l3⟩ := Option.map_eq_some_iff.mp (runC w os)
  obtain rfl : sT = sB := Option.some.inj (r1.symm.trans rB)
  obtain rfl : sT = sC := Option.some.inj (r1.symm.trans rC)
  have r : topRun treeTable pw w 11 ann M (bootS w os).abs (topStub pw) = some sT.abs := topT_run r1
  rw [bootS_abs] at r
  replace r := topRun_mono (N - M) _ _ _ _ r
  rw [show M + (N - M) = N by have := Nat.le_of_ble_eq_true le; omega] at r
  have z1' : ((boot_heap w.params).isNs mainGlobals && (Array.mk [] : Array GenState).size == 0) = true := by rw [z1]; rfl
  have t : topFrom treeTable pw w N ⟨boot_heap w.params, Array.mk [], boot_drawn, boot_toks, os⟩ = some sT.abs := by
    unfold topFrom
    dsimp only
    rw [z1', z2, z3, r]
    show (match staticsOk (importedModules pw.main.body) (boot_heap w.params) sT.abs.heap && namesBound pw sT.abs.heap && gensDone sT.abs && laidKept (boot_heap w.params) sT.abs.heap with | true => _ | false => _) = _
    rw [l1]
  unfold openEnds
  rw [e1]
  show (topFrom treeTable pw w N _).map _ = _
  rw [t]
  exact congrArg some (Prod.ext l2 l3)
noncomputable def runQ (w : World) (os : OsState) : Option SharedT := (topT (Fast.tw10156331382660048174 (Fast.tw11892475500146522536 Fast.tw14364793385576792824) PySem.Challenge.pw_lj0027_01 w) through (Fast.tw6613529449190102663 11 (some (.ref 6))) 3600 ⟨((boot_heap w.params).objs.toList.zipIdx.foldl (fun t o => t.ins o.2 o.1) .nil), 11, (boot_heap w.params).life, Array.mk [], boot_drawn, boot_toks, os⟩ (topStub PySem.Challenge.pw_lj0027_01))
theorem runQ_eq (w : World) (os : OsState) : runQ w os = (topT (stepT (denote treeTable) PySem.Challenge.pw_lj0027_01 w) through (stepOk 11 (some (.ref 6))) 3600 ⟨((boot_heap w.params).objs.toList.zipIdx.foldl (fun t o => t.ins o.2 o.1) .nil), 11, (boot_heap w.params).life, Array.mk [], boot_drawn, boot_toks, os⟩ (topStub PySem.Challenge.pw_lj0027_01)) := by
  unfold runQ
  rw [← Fast.te10156331382660048174, ← Fast.te11892475500146522536, ← Fast.te14364793385576792824, ← Fast.te6613529449190102663]
theorem left_fast {q : Program} {loose : List Str} {Xt : Shared → Bool} {K : Params → Frag} {as : List Addr} {e9 : ∀ P, as = (K P).map (·.1)} {ts : List Addr}
    (e : opening pw = plainProg pw.main.scope.names) (f : ∀ s, fenceModules? pw s = some s)
    (size : ∀ w : World, ((boot_heap w.params).isNs mainGlobals, (boot_heap w.params).objs.size, (boot_heap w.params).nsMap mainGlobals "__annotations__") = (true, 11, some (.ref 6)))
    (runA : ∀ (w : World) (os : OsState), Option.map (fun s => staticsOk (Fast.tw5923862056798008813 PySem.Challenge.pw_lj0027_01.main.body) (boot_heap w.params) (SharedT.abs s).heap && namesBound PySem.Challenge.pw_lj0027_01 (SharedT.abs s).heap && gensDone (SharedT.abs s) && laidKept (boot_heap w.params) (SharedT.abs s).heap) (runQ w os) = some true)
    (runB : ∀ (w : World) (os : OsState), Option.map (fun s => Fast.tw4187177175401517315 q loose (Fast.tw5923862056798008813 PySem.Challenge.pw_lj0027_01.main.body) Xt true (SharedT.abs s)) (runQ w os) = some (openGood q loose))
    (runC : ∀ (w : World) (os : OsState), Option.map (fun s => ((K w.params).map fun p => (SharedT.abs s).heap.get? p.1, ts.map (SharedT.abs s).heap.get?)) (runQ w os) = some ((K w.params).map fun p => some p.2, ts.map fun _ => some (tabObj #[]))) :
    LeftO pw q loose Xt (Hook.obs (kmHook K as e9 ts)) (Hook.val (kmHook K as e9 ts)) 7204 := by
  refine left_shot (M := 3600) (ann := some (.ref 6)) e (by decide) f size (by decide) (fun w os => ?_) (fun w os => ?_) (fun w os => ?_)
  · have h := runA w os
    rw [runQ_eq, ← Fast.te5923862056798008813] at h
    exact h
  · have h := runB w os
    rw [runQ_eq, ← Fast.te5923862056798008813, ← Fast.te4187177175401517315] at h
    exact h
  · have h := runC w os
    rw [runQ_eq] at h
    obtain ⟨s, h1, h2⟩ := Option.map_eq_some_iff.mp h
    rw [h1]
    have e8 : ∀ g : Addr → Option Obj, as.map g = (K w.params).map fun p => g p.1 := fun g => by rw [e9 w.params, List.map_map]; rfl
    show some ((as.map s.abs.heap.get?, ts.map s.abs.heap.get?) : List (Option Obj) × List (Option Obj)) = _
    rw [e8]
    exact congrArg some h2
theorem both {A B C : Prop} (h : A → B → C) (x : A ∧ B) : C := h x.1 x.2
theorem noRoad : noRoadLSs { strict := !(importedModules PySem.Challenge.pw_lj0027_01.main.body).all cThrough.contains, foot := none, bare := (["vars", "dir", "locals"] : List Str).filter (readsOut PySem.Challenge.pw_lj0027_01 PySem.Challenge.pw_lj0027_01.main.body) } PySem.Challenge.pw_lj0027_01.main.body = true := by kernel_rfl
theorem looksT : looksOpen PySem.Challenge.pw_lj0027_01 = true := by
  unfold looksOpen
  refine look_both (look_both ?_ noRoad) (by kernel_rfl)
  kernel_rfl
theorem said_row : OpenRow.wellSaid (OpenLaw.row PySem.Challenge.rw_lj0027_01) = true := by
  unfold OpenRow.wellSaid OpenRow.partSaid
  rw [show looksOpen (OpenLaw.row PySem.Challenge.rw_lj0027_01).prog = true from looksT]
  kernel_rfl
theorem said : OpenLaw.wellSaid PySem.Challenge.rw_lj0027_01 = true := by
  unfold OpenLaw.wellSaid
  rw [said_row]
  kernel_rfl
noncomputable def vw : Program := view PySem.Challenge.pw_lj0027_01 [0, 1, 2, 4, 6, 8, 9, 10, 11, 13, 16, 18, 20, 21, 22, 24, 25, 26, 28, 29, 31, 32, 33, 34, 36, 37, 38, 39, 40, 41, 42, 43, 44, 45, 46, 47, 48, 49]
noncomputable def lo : List Str := ["POW_2_381", "is_point_at_infinity", "is_inf_bn128_curve", "is_on_curve_bn128_curve", "FQ", "FQ_field_elements", "FQ_optimized_field_elements", "is_inf_optimized_curve", "is_on_curve_optimized_curve"].map Str.ofString
noncomputable def lv : List (Str × WData) := [(Str.ofString "POW_2_381", WData.int 4925250774549309901534880012517951725634967408808180833493536675530715221437151326426783281860614455100828498788352)]
theorem fst_of {α β γ : Type} {f : α → β} {g : α → γ} {x : Option α} {b : β} {c : γ} (h : Option.map (fun s => (f s, g s)) x = some (b, c)) : Option.map f x = some b := by
  cases x with
  | none => exact nomatch h
  | some a => exact congrArg some (congrArg Prod.fst (Option.some.inj h))
theorem snd_of {α β γ : Type} {f : α → β} {g : α → γ} {x : Option α} {b : β} {c : γ} (h : Option.map (fun s => (f s, g s)) x = some (b, c)) : Option.map g x = some c := by
  cases x with
  | none => exact nomatch h
  | some a => exact congrArg some (congrArg Prod.snd (Option.some.inj h))
theorem run_AB (w : World) (os : OsState) : Option.map (fun s => (staticsOk (Fast.tw5923862056798008813 PySem.Challenge.pw_lj0027_01.main.body) (boot_heap w.params) (SharedT.abs s).heap && namesBound PySem.Challenge.pw_lj0027_01 (SharedT.abs s).heap && gensDone (SharedT.abs s) && laidKept (boot_heap w.params) (SharedT.abs s).heap, Fast.tw4187177175401517315 vw lo (Fast.tw5923862056798008813 PySem.Challenge.pw_lj0027_01.main.body) (fun s => xlAt vw lv s && recOk (RowW.records (OpenRow.toRowW (OpenLaw.row PySem.Challenge.rw_lj0027_01))) s) true (SharedT.abs s))) (runQ w os) = some (true, openGood vw lo) := by kernel_rfl
theorem run_A (w : World) (os : OsState) : Option.map (fun s => staticsOk (Fast.tw5923862056798008813 PySem.Challenge.pw_lj0027_01.main.body) (boot_heap w.params) (SharedT.abs s).heap && namesBound PySem.Challenge.pw_lj0027_01 (SharedT.abs s).heap && gensDone (SharedT.abs s) && laidKept (boot_heap w.params) (SharedT.abs s).heap) (runQ w os) = some true := fst_of (run_AB w os)
theorem run_B (w : World) (os : OsState) : Option.map (fun s => Fast.tw4187177175401517315 vw lo (Fast.tw5923862056798008813 PySem.Challenge.pw_lj0027_01.main.body) (fun s => xlAt vw lv s && recOk (RowW.records (OpenRow.toRowW (OpenLaw.row PySem.Challenge.rw_lj0027_01))) s) true (SharedT.abs s)) (runQ w os) = some (openGood vw lo) := snd_of (run_AB w os)
local macro_rules | `(tactic| o_law) => `(tactic| refine holds_law said fun said' => ?_)
local macro_rules | `(tactic| o_head ($f:ident $K $as $e $ts)) => `(tactic| (refine both (fun hl hcall => holds_open (q := vw) (loose := lo) (Xt := fun s => xlAt vw lv s && recOk (RowW.records (OpenRow.toRowW (OpenLaw.row PySem.Challenge.rw_lj0027_01))) s) (XP := XL vw lv) (Yf := Hook.obs ($f $K $as $e [59, 267, 609])) (Ya := Hook.val ($f $K $as $e [59, 267, 609])) (YP := Hook.says ($f $K $as $e [59, 267, 609])) (N := 7204) hl (Hook.of ($f $K $as $e [59, 267, 609])) (Hook.keeps ($f $K $as $e [59, 267, 609])) (fun s e => xl_of s (Bool.and_eq_true_iff.mp e).1) XL.keeps (by rfl) (by rfl) (by rfl) (fun s e => recFacts_of (Bool.and_eq_true_iff.mp e).2) (by rfl) (row_said said) (by decide +kernel) ⟨rfl, rfl, rfl, rfl, rfl, by decide +kernel⟩ ?hw hcall) ?hc))
open_top hd for PySem.Challenge.rw_lj0027_01
theorem run_C (w : World) (os : OsState) : Option.map (fun s => ((hd.heap_1 w.params).map fun p => (SharedT.abs s).heap.get? p.1, [59, 267, 609].map (SharedT.abs s).heap.get?)) (runQ w os) = some ((hd.heap_1 w.params).map fun p => some p.2, [59, 267, 609].map fun _ => some (tabObj #[])) := by kernel_rfl
end

set_option maxRecDepth 100000 in
set_option maxHeartbeats 8000000 in
theorem fill_all : PySem.Challenge.rw_lj0027_01 = PySem.Challenge.rw_lj0027_01 ∧ hd.heap_1 = hd.heap_1 := by
  w_top off
  k_fill
  exact ⟨rfl, rfl⟩
local macro_rules | `(tactic| walk_at $s:str) => `(tactic| k_extra $(Lean.Syntax.mkStrLit ("m:" ++ s.getString)))
local macro_rules | `(tactic| k_all) => `(tactic| k_extra "m.k_all")
local macro_rules | `(tactic| k_in) => `(tactic| k_extra "m.k_in")
local macro_rules | `(tactic| k_enter) => `(tactic| k_extra "m.k_enter")
local macro_rules | `(tactic| k_mem) => `(tactic| k_extra "m.k_mem")
local macro_rules | `(tactic| k_ne) => `(tactic| k_extra "m.k_ne")
local macro_rules | `(tactic| k_room) => `(tactic| k_extra "m.k_room")
local macro_rules | `(tactic| k_steps) => `(tactic| k_extra "m.k_steps")
local macro_rules | `(tactic| k_units) => `(tactic| k_extra "m.k_units")
local macro_rules | `(tactic| kts_go) => `(tactic| k_extra "m.kts_go")
local macro_rules | `(tactic| mul_fits) => `(tactic| k_extra "m.mul_fits")
local macro_rules | `(tactic| omega) => `(tactic| k_extra "m.omega")
local macro_rules | `(tactic| units_room) => `(tactic| k_extra "m.units_room")
theorem lay1 : True := by
  k_with "std" => ((case qFq7 => first | assumption | exact rfl); (case qKq7 => first | assumption | exact rfl); (case qDq7 => ((try simp +zetaDelta only [depth_mark, depth_under_make, depth_under_kw, depth_in1, depth_deeper]); (try dsimp only); omega)); (case qUq7 => ((try simp +zetaDelta only [units_under_make, units_in1, units_deeper, Around.mark_units]); (try dsimp only); omega)); (case q1q7 => k_asm); (case q2q7 => k_asm); (case q3q7 => k_asm); (case q4q7 => k_asm); (case q5q7 => k_asm))
  trivial
-- piece base
section
theorem omA {a b c : Nat} (h : a ≤ b) (e : Nat.ble b c = true) : a ≤ c := Nat.le_trans h (Nat.le_of_ble_eq_true e)
theorem omB {a b c k : Nat} (h : a ≤ b) (e : Nat.ble (b + k) c = true) : a + k ≤ c := Nat.le_trans (Nat.add_le_add_right h k) (Nat.le_of_ble_eq_true e)
theorem omC {a b c j k : Nat} (h : a ≤ b) (e : Nat.ble (b + j + k) c = true) : a + j + k ≤ c := omB (Nat.add_le_add_right h j) e
theorem omD {a b c : Nat} (h : a ≤ b) (e : Nat.ble (b + 1) c = true) : a < c := omB (k := 1) h e
theorem omE {a b c k : Nat} (h : a ≤ b) (e : Nat.ble (b + k + 1) c = true) : a + k < c := omC (k := 1) h e
theorem oiA {a b v : Int} (h : b ≤ v) (e : decide (a ≤ b) = true) : a ≤ v := Int.le_trans (of_decide_eq_true e) h
theorem oiB {a b v : Int} (h : b ≤ v) (e : decide (a < b) = true) : a < v := Int.lt_of_lt_of_le (of_decide_eq_true e) h
theorem oiC {a b v : Int} (h : b < v) (e : decide (a ≤ b) = true) : a ≤ v := Int.le_of_lt (Int.lt_of_le_of_lt (of_decide_eq_true e) h)
theorem oiD {a b v : Int} (h : b < v) (e : decide (a ≤ b) = true) : a < v := Int.lt_of_le_of_lt (of_decide_eq_true e) h
theorem oiE {v b c : Int} (h : v ≤ b) (e : decide (b ≤ c) = true) : v ≤ c := Int.le_trans h (of_decide_eq_true e)
theorem oiF {v b c : Int} (h : v ≤ b) (e : decide (b < c) = true) : v < c := Int.lt_of_le_of_lt h (of_decide_eq_true e)
theorem oiG {v b c : Int} (h : v < b) (e : decide (b ≤ c) = true) : v < c := Int.lt_of_lt_of_le h (of_decide_eq_true e)
theorem oiH {v b c : Int} (h : v < b) (e : decide (b ≤ c + 1) = true) : v ≤ c := Int.le_of_lt_add_one (Int.lt_of_lt_of_le h (of_decide_eq_true e))
theorem oiI {v b c : Int} (h : b ≤ v) (e : decide (c < b) = true) : v ≠ c := fun q => absurd (q ▸ h) (Int.not_le.mpr (of_decide_eq_true e))
end
noncomputable abbrev PR : Program := PySem.Challenge.rw_lj0027_01.row.prog
noncomputable abbrev ar (dp un : Nat) (gd : Option (List Code)) (env : Env) (outer : List Env) : Around := { handled := none, depth := dp, frames := some (env :: outer), guards := gd, units := un }
theorem lay2 : True := by
  k_with "m.k_room" => ((show _ < 1000); (try simp +zetaDelta only [depth_mark, depth_under_make, depth_under_kw, depth_in1, depth_deeper]); (try dsimp only); omega)
  k_with "m.k_units" => ((show _ < 9900); (try simp +zetaDelta only [units_under_make, units_in1, units_deeper, Around.mark_units]); (try dsimp only); omega)
  trivial
inductive BindsP : List Arg → List Value → List (Str × Value) → Prop
  | nil : BindsP [] [] []
  | cons {n : Str} {an : Option PySem.Expr} {ps : Pos} {as : List Arg} {v : Value} {vs : List Value} {bs : List (Str × Value)} (h : BindsP as vs bs) : BindsP (⟨n, an, ps⟩ :: as) (v :: vs) ((n, v) :: bs)
noncomputable def bindMap : List (Str × Value) → Str → Option Value
  | [], _ => none
  | (n, v) :: r, y => if y = n then some v else bindMap r y
theorem bindMap_eq : ∀ (bs : List (Str × Value)), (bs.map (·.1)).Nodup → ∀ y, bs.reverse.lookup y = bindMap bs y
  | [], _, _ => rfl
  | (n, v) :: r, h, y => by
    have hr := bindMap_eq r (List.nodup_cons.mp h).2 y
    rw [List.reverse_cons, List.lookup_append, hr, bindMap]
    by_cases hy : y = n
    · subst hy
      have : bindMap r y = none := by
        rw [← hr]
        rw [List.lookup_eq_none_iff]
        intro q hq
        have hq' : q ∈ r := List.mem_reverse.mp hq
        have hne : q.1 ≠ y := fun e => (List.nodup_cons.mp h).1 (List.mem_map.mpr ⟨q, hq', e⟩)
        simpa using fun e => hne e.symm
      rw [this]; simp
    · simp only [hy, if_false]
      cases bindMap r y with
      | some v => rfl
      | none => simp [List.lookup, beq_false_of_ne hy]
noncomputable def distinct : List Str → Bool
  | [] => true
  | a :: r => !r.contains a && distinct r
theorem distinct_nodup : ∀ l : List Str, distinct l = true → l.Nodup
  | [], _ => List.nodup_nil
  | a :: r, h => by
    simp only [distinct, Bool.and_eq_true, Bool.not_eq_true'] at h
    exact List.nodup_cons.mpr ⟨by simpa using h.1, distinct_nodup r h.2⟩
section
variable {prog : Program} {w : World} {A A₀ : Around} {E : Value → Shared → Prop} {s : Shared} {K : Frag} {C L : Addr} {h₀ base : Heap} {m mg mb : Str → Option Value} {news : List (Addr × Obj)} {p : Program} {loose : List Str} {mean : ExcName → Option Value} {Q : Value → Shared → Prop}
theorem code_defB {env : Env} {outer : List Env} {R : Result → Shared → Prop} {name qual : Str} {params : Arguments} {body : List Stmt} {scope : Scope} {dV kV doc pm cdv ct oc : Value} {an od : Option Addr} {osl : Array (Option Value)} {f : Addr} {args : Args} {binds : List (Str × Value)}
    (B : Below A₀ base outer h₀) (F : Fr h₀ L s.heap m) (X₀ : K.In h₀) (N : News h₀ L s.heap news) (T : Top p loose mean mg mb h₀) (hA : A.frames = some (env :: outer)) (hf : env.frame = some L) (hke : env.scope.kind = .function)
    (ho : K.lookup f = some ⟨oc, od, .func (fnOf name qual params body scope dV kV doc pm an cdv ct), osl⟩) (hcd : codeIn K cdv qual = true) (hroom : A.depth < recursionLimit)
    (hb : BindsP params.args args.pos binds) (hbind : BindsTo s (fnOf name qual params body scope dV kV doc pm an cdv ct) args binds) (hd : distinct (binds.map (·.1)) = true) (hloc : ∀ y ∈ binds, scope.names.lookup y.1 = some .local)
    (h : ∀ g L' h₁, Fr h₀ L g m → Fr g L' h₁ (bindMap binds) → News g L' h₁ news → Below A base (env :: outer) g → K.In g → Top p loose mean mg mb g →
      wpAny (model prog w) (A.deeper (envOf qual scope L' f cdv)) (execs body (envOf qual scope L' f cdv))
        (fun fl s' => LeaveK h₀ L m g R (match fl with | .ret v => v | _ => .none) s')
        (fun e s' => wpAny (model prog w) (A.deeper (envOf qual scope L' f cdv)) (leaving (envOf qual scope L' f cdv) e) (fun _ s'' => R (.error e) s'') (fun e' s'' => R (.error e') s'') s')
        { s with heap := h₁, toks := s.toks + binds.length })
    (hco : scope.isCoroutine = false) (hgen : scope.isGenerator = false) (hk : scope.kind = .function)
    (hcell : ∀ x ∈ scope.names, x.2 ≠ .cell) : codeAny (model prog w) A (.call (.ref f) args) R s :=
  have e : (fun y => binds.reverse.lookup y) = bindMap binds := funext (bindMap_eq binds (distinct_nodup _ hd))
  code_def B F X₀ N T hA hf hke ho hcd hroom hbind hloc (fun g L' h₁ FG F' => h g L' h₁ FG (e ▸ F')) hco hgen hk hcell
end
theorem lay3 : True := by
  k_with "m.k_enter" => (refine' code_defB ?k1q7 ?k2q7 ?k3q7 ?k4q7 ?k5q7 ?kAq7 ?kFq7 ?kKq7 ?k6q7 ?k7q7 ?k8q7 ?kPq7 ?k9q7 ?kDq7 ?kBq7 ?_ ?c2q7 ?c3q7 ?c4q7 ?c5q7; (case kAq7 => exact rfl); (case kFq7 => first | assumption | exact rfl); (case kKq7 => first | assumption | exact rfl); (case k1q7 => k_asm); (case k2q7 => k_asm); (case k3q7 => k_asm); (case k4q7 => k_asm); (case k5q7 => k_asm); (case k6q7 => k_is); (case k7q7 => k_is); (case k8q7 => k_room); (case kPq7 => first | exact BindsP.nil | exact BindsP.cons BindsP.nil | exact BindsP.cons (BindsP.cons BindsP.nil) | exact BindsP.cons (BindsP.cons (BindsP.cons BindsP.nil)) | exact BindsP.cons (BindsP.cons (BindsP.cons (BindsP.cons BindsP.nil))) | exact BindsP.cons (BindsP.cons (BindsP.cons (BindsP.cons (BindsP.cons BindsP.nil)))) | exact BindsP.cons (BindsP.cons (BindsP.cons (BindsP.cons (BindsP.cons (BindsP.cons BindsP.nil))))) | exact BindsP.cons (BindsP.cons (BindsP.cons (BindsP.cons (BindsP.cons (BindsP.cons (BindsP.cons BindsP.nil)))))) | exact BindsP.cons (BindsP.cons (BindsP.cons (BindsP.cons (BindsP.cons (BindsP.cons (BindsP.cons (BindsP.cons BindsP.nil)))))))); (case k9q7 => first | exact BindsTo.of_eq rfl | exact binds_K (by k_in) rfl (by k_is) rfl rfl rfl | fail "k_enter: no rule for these arguments"); (case kDq7 => kernel_rfl); (case c5q7 => decide); (case kBq7 => exact locs rfl); (case c2q7 => exact rfl); (case c3q7 => exact rfl); (case c4q7 => exact rfl); k_whole; intro g'q L'q h'q FG'q F'q N'q B'q X'q T'q; (try dsimp only [bindMap, List.length_cons, List.length_nil] at F'q ⊢); (try k_lift B'q); (first | refine let q'q : Flow → Shared → Prop := _; let e'q : Value → Shared → Prop := _; let o'q : Around := _; let v'q : Env := _; let a'q : Around := Around.deeper o'q v'q; let s'q : Shared := _; (?_ : wpAny _ a'q (execs _ v'q) q'q e'q s'q) | skip))
  trivial

theorem ret_int {Q : Value → Shared → Prop} {S : Shared} {x y : Int} {t : Tok} (e : y = x) (h : Q (.int x t) S) : Q (.int y t) S := e ▸ h
theorem ret_bool {Q : Value → Shared → Prop} {S : Shared} {x y : Bool} (e : y = x) (h : Q (.bool x) S) : Q (.bool y) S := e ▸ h
theorem lay4 : True := by
  k_with "m:CmpBack" => (unfold PySem.W.CmpBack; (try dsimp only))
  k_with "m:LenBack" => (unfold PySem.W.LenBack; (try dsimp only))
  k_with "m:StrBack" => (unfold PySem.W.StrBack; (try dsimp only))
  k_with "m:BoolBack" => (unfold PySem.W.BoolBack; (try dsimp only))
  k_with "mem" => first | exact List.Mem.head _ | assumption | (refine' List.Mem.tail _ ?_; k_extra "mem")
  k_with "m.k_ne" => (refine neN ?_; (try dsimp only); first | ((refine Nat.ne_of_lt ?_; (repeat (first | with_reducible exact Nat.lt_add_one _ | with_reducible refine Nat.lt_add_one_of_lt ?_)); done)) | ((refine Nat.ne_of_gt ?_; (repeat (first | with_reducible exact Nat.lt_add_one _ | with_reducible refine Nat.lt_add_one_of_lt ?_)); done)) | ((with_reducible refine Nat.ne_of_gt ?_; first | with_reducible assumption | exact And.left (by with_reducible assumption) | exact And.left (And.right (by with_reducible assumption)) | exact And.left (And.right (And.right (by with_reducible assumption))) | exact And.left (And.right (And.right (And.right (by with_reducible assumption)))) | exact And.left (And.right (And.right (And.right (And.right (by with_reducible assumption))))) | exact And.left (And.right (And.right (And.right (And.right (And.right (by with_reducible assumption)))))) | exact And.left (And.right (And.right (And.right (And.right (And.right (And.right (by with_reducible assumption))))))) | exact And.left (And.right (And.right (And.right (And.right (And.right (And.right (And.right (by with_reducible assumption)))))))) | exact And.left (And.right (And.right (And.right (And.right (And.right (And.right (And.right (And.right (by with_reducible assumption))))))))))) | omega)
  k_with "m.k_mem" => k_extra "mem"
  trivial
theorem sub_cons {α : Type} {a : α} {r l : List α} (h : a ∈ l) (t : ∀ p ∈ r, p ∈ l) : ∀ p ∈ a :: r, p ∈ l := fun p hp => (List.mem_cons.mp hp).elim (fun e => e ▸ h) (t p)
theorem sub_tail {α : Type} {a : α} {r l : List α} (t : ∀ p ∈ r, p ∈ l) : ∀ p ∈ r, p ∈ a :: l := fun p hp => .tail _ (t p hp)
theorem lay5 : True := by
  k_with "m:eval Call" => ((with_reducible show wpAny _ _ (eval (Expr.Call (Expr.Name _ _) _ [] _) _) _ _ _); k_dflt (refine Call_ ?_))
  k_with "m:eval Call Attribute" => ((with_reducible show wpAny _ _ (eval (Expr.Call (Expr.Attribute _ _ _) _ [] _) _) _ _ _); k_dflt (refine MethodCall_ ?_))
  trivial
theorem gen_store {M : Model} {A : Around} {env : Env} {x : Str} {v : Int} {t : Tok} {Q : Unit → Shared → Prop} {E : Value → Shared → Prop} {s : Shared} (P : Int → Prop) (hp : P v) (h : ∀ v', P v' → wpAny M A (storeName env x (.int v' t)) Q E s) : wpAny M A (storeName env x (.int v t)) Q E s := h v hp
theorem lay6 : True := by
  k_with "m:newTuple" => (k_here; k_dflt (refine' kup_newTuple ?Fq7 ?Nq7 ?_ ?zq7; (case Fq7 => k_asm); (case Nq7 => k_asm); (case zq7 => kmk_size)); intro D'q h'q F'q N'q l1q; clear l1q; (try k_sweep))
  k_with "m.k_steps" => repeat' (first | ((fail_if_success (fail_if_success k_unfold)); first | ((with_reducible refine (?_ : wpAny _ _ _ _ _ _)); (try dsimp only)) | (k_unfold; (try dsimp only))) | ((fail_if_success (fail_if_success k_fold)); refine let q'q : _ → _ → Prop := _; let s'q : Shared := _; (?_ : wpAny _ _ _ q'q _ s'q)) | (k_end; kc_close) | walk1 | (dsimp only; walk1) | (show (_ : _ → _ → Prop) _ _; k_unfold; (try dsimp only)) | (dsimp only [List.cons_append, List.nil_append]; walk1) | (leave1; walk_say "STEP leave1"; (try dsimp only)) | fail "no step")
  k_with "m.units_room" => ((have hcL'q := cLine_is); (simp +zetaDelta only [units_in1, units_deeper, Around.mark_units, units_caller, units_under_make]); omega)
  k_with "m.k_in" => first | with_reducible assumption | exact Frag.In.keeps (by k_asm) (Fr.keep (by k_asm))
  trivial

-- piece om
theorem lay7 : True := by
  k_with "m.omega" => first | with_reducible assumption | (with_reducible show (_ : Nat) ≤ _; first | exact Nat.le_of_ble_eq_true rfl | exact omA (by with_reducible assumption) rfl | exact omB (by with_reducible assumption) rfl | exact omC (by with_reducible assumption) rfl) | (with_reducible show (_ : Nat) < _; first | exact Nat.le_of_ble_eq_true rfl | exact omD (by with_reducible assumption) rfl | exact omE (by with_reducible assumption) rfl) | (with_reducible show (_ : Int) ≤ _; first | decide | exact oiA (by with_reducible assumption) rfl | exact oiE (by with_reducible assumption) rfl | exact oiC (by with_reducible assumption) rfl | exact oiH (by with_reducible assumption) rfl) | (with_reducible show (_ : Int) < _; first | decide | exact oiB (by with_reducible assumption) rfl | exact oiF (by with_reducible assumption) rfl | exact oiG (by with_reducible assumption) rfl | exact oiD (by with_reducible assumption) rfl) | (with_reducible show ¬ ((_ : Int) = _); exact oiI (by with_reducible assumption) rfl) | lia
  trivial

-- piece sx
structure EI (prog : Program) (w : World) (A : Around) (h : Heap) (env : Env) (e : PySem.Expr) (n : Int) : Prop where
  plain : ∀ rest, starEach (e :: rest) env = (false, eval e env) :: starEach rest env
  run : ∀ (Q : Value → Shared → Prop) (E : Value → Shared → Prop) (s : Shared), s.heap = h → (∀ t tk, Q (.int n t) { s with toks := tk }) → wpAny (model prog w) A (eval e env) Q E s
structure EV (prog : Program) (w : World) (A : Around) (h : Heap) (env : Env) (e : PySem.Expr) (v : Value) : Prop where
  plain : ∀ rest, starEach (e :: rest) env = (false, eval e env) :: starEach rest env
  run : ∀ (Q : Value → Shared → Prop) (E : Value → Shared → Prop) (s : Shared), s.heap = h → (∀ tk, Q v { s with toks := tk }) → wpAny (model prog w) A (eval e env) Q E s
section
variable {prog : Program} {w : World} {A : Around} {h h₀ : Heap} {env : Env} {L a : Addr} {cn : Str} {cs : Scope} {ccd : Value} {cl : List (Str × Addr)} {m : Str → Option Value} {x : Str} {pos p1 p2 : Pos} {n i j : Int} {t : Tok} {v : Value} {e l r : PySem.Expr}
theorem EI.const {k : Nat} : EI prog w A h env (.Constant (.int n) k pos) n := ⟨fun _ => rfl, fun _ _ _ _ k => wpAny_Constant_int (k _ _)⟩
theorem EV.name (F : Fr h₀ L h m) (hm : m x = some v) (k1 : cs.kind = .function) (k2 : (envX cn cs L a ccd cl).kindOf x = some .local) (k3 : (x == Str.ofString "__debug__") = false) : EV prog w A h (envX cn cs L a ccd cl) (.Name x pos) v :=
  ⟨fun _ => rfl, fun _ _ s hs k => nameX_L (s := s) (hs ▸ F) hm (k s.toks) k1 k2 k3⟩
theorem EI.name (F : Fr h₀ L h m) (hm : m x = some (.int n t)) (k1 : cs.kind = .function) (k2 : (envX cn cs L a ccd cl).kindOf x = some .local) (k3 : (x == Str.ofString "__debug__") = false) : EI prog w A h (envX cn cs L a ccd cl) (.Name x pos) n :=
  ⟨fun _ => rfl, fun _ _ s hs k => nameX_L (s := s) (hs ▸ F) hm (k t s.toks) k1 k2 k3⟩
theorem EI.add (e1 : EI prog w A h env l i) (e2 : EI prog w A h env r j) : EI prog w A h env (.BinOp l .Add r pos) (i + j) :=
  ⟨fun _ => rfl, fun _ _ s hs k => wpAny_BinOp (e1.run _ _ s hs fun _ _ => e2.run _ _ _ hs fun _ _ => add_int (k _ _))⟩
theorem EI.sub (e1 : EI prog w A h env l i) (e2 : EI prog w A h env r j) : EI prog w A h env (.BinOp l .Sub r pos) (i - j) :=
  ⟨fun _ => rfl, fun _ _ s hs k => wpAny_BinOp (e1.run _ _ s hs fun _ _ => e2.run _ _ _ hs fun _ _ => sub_int (k _ _))⟩
theorem EI.mul (e1 : EI prog w A h env l i) (e2 : EI prog w A h env r j) (hm : IntMulOk i j) : EI prog w A h env (.BinOp l .Mult r pos) (i * j) :=
  ⟨fun _ => rfl, fun _ _ s hs k => wpAny_BinOp (e1.run _ _ s hs fun _ _ => e2.run _ _ _ hs fun _ _ => mul_int (k _ _) hm)⟩
theorem EI.mod (e1 : EI prog w A h env l i) (e2 : EI prog w A h env r j) (hj : j ≠ 0) : EI prog w A h env (.BinOp l .Mod r pos) (i.fmod j) :=
  ⟨fun _ => rfl, fun _ _ s hs k => wpAny_BinOp (e1.run _ _ s hs fun _ _ => e2.run _ _ _ hs fun _ _ => mod_int' hj (k _ _))⟩
theorem EI.use {Q : Value → Shared → Prop} {E : Value → Shared → Prop} {s : Shared} (d : EI prog w A s.heap env e n) (k : ∀ t tk, Q (.int n t) { s with toks := tk }) : wpAny (model prog w) A (eval e env) Q E s := d.run _ _ _ rfl k
theorem EI.store {Q : Flow → Shared → Prop} {E : Value → Shared → Prop} {s : Shared} (d : EI prog w A s.heap env e n) (hs : swapsWith e (some (.Name x p1)) pos.line env = pure false)
    (k : ∀ t tk, wpAny (model prog w) A (storeName env x (.int n t)) (fun _ => Q .next) E { s with toks := tk }) : wpAny (model prog w) A (exec (.Assign [.Name x p1] e pos) env) Q E s :=
  wpAny_Assign_Name (d.run _ _ _ rfl fun t tk => k t tk) hs
theorem EI.eq {Q : Value → Shared → Prop} {E : Value → Shared → Prop} {s : Shared} (d1 : EI prog w A s.heap env l i) (d2 : EI prog w A s.heap env r j) (hb : behindInMarks .Eq r = false) (k : ∀ tk, Q (.bool (i == j)) { s with toks := tk }) : wpAny (model prog w) A (eval (.Compare l [.Eq] [r] pos) env) Q E s :=
  wpAny_Compare1 (d1.run _ _ _ rfl fun _ _ => d2.run _ _ _ rfl fun _ _ => eq_int (k _)) hb
theorem EI.ne {Q : Value → Shared → Prop} {E : Value → Shared → Prop} {s : Shared} (d1 : EI prog w A s.heap env l i) (d2 : EI prog w A s.heap env r j) (hb : behindInMarks .NotEq r = false) (k : ∀ tk, Q (.bool (i != j)) { s with toks := tk }) : wpAny (model prog w) A (eval (.Compare l [.NotEq] [r] pos) env) Q E s :=
  wpAny_Compare1 (d1.run _ _ _ rfl fun _ _ => d2.run _ _ _ rfl fun _ _ => ne_int (k _)) hb
theorem EI.isEq {wh : Sem Value} {Q : Bool → Shared → Prop} {E : Value → Shared → Prop} {s : Shared} (d1 : EI prog w A s.heap env l i) (d2 : EI prog w A s.heap env r j) (hb : behindInMarks .Eq r = false) (k : ∀ tk, Q (i == j) { s with toks := tk }) : wpAny (model prog w) A (PySem.isTrue (.Compare l [.Eq] [r] pos) env wh) Q E s :=
  wpAny_isTrue_Compare1 (d1.run _ _ _ rfl fun _ _ => d2.run _ _ _ rfl fun _ _ => eq_int (wpAny_truthy_bool (k _))) hb
theorem EI.isNe {wh : Sem Value} {Q : Bool → Shared → Prop} {E : Value → Shared → Prop} {s : Shared} (d1 : EI prog w A s.heap env l i) (d2 : EI prog w A s.heap env r j) (hb : behindInMarks .NotEq r = false) (k : ∀ tk, Q (i != j) { s with toks := tk }) : wpAny (model prog w) A (PySem.isTrue (.Compare l [.NotEq] [r] pos) env wh) Q E s :=
  wpAny_isTrue_Compare1 (d1.run _ _ _ rfl fun _ _ => d2.run _ _ _ rfl fun _ _ => ne_int (wpAny_truthy_bool (k _))) hb
theorem EI.isLt {wh : Sem Value} {Q : Bool → Shared → Prop} {E : Value → Shared → Prop} {s : Shared} (d1 : EI prog w A s.heap env l i) (d2 : EI prog w A s.heap env r j) (hb : behindInMarks .Lt r = false) (k : ∀ tk, Q (decide (i < j)) { s with toks := tk }) : wpAny (model prog w) A (PySem.isTrue (.Compare l [.Lt] [r] pos) env wh) Q E s :=
  wpAny_isTrue_Compare1 (d1.run _ _ _ rfl fun _ _ => d2.run _ _ _ rfl fun _ _ => lt_int (wpAny_truthy_bool (k _))) hb
theorem EI.isGt {wh : Sem Value} {Q : Bool → Shared → Prop} {E : Value → Shared → Prop} {s : Shared} (d1 : EI prog w A s.heap env l i) (d2 : EI prog w A s.heap env r j) (hb : behindInMarks .Gt r = false) (k : ∀ tk, Q (decide (j < i)) { s with toks := tk }) : wpAny (model prog w) A (PySem.isTrue (.Compare l [.Gt] [r] pos) env wh) Q E s :=
  wpAny_isTrue_Compare1 (d1.run _ _ _ rfl fun _ _ => d2.run _ _ _ rfl fun _ _ => gt_int (wpAny_truthy_bool (k _))) hb
end
theorem lay8 : True := by
  k_with "sx" => first | with_reducible exact EI.const | ((with_reducible show EI _ _ _ _ _ (Expr.Name _ _) _); refine' EI.name ?Fq7 ?mq7 ?aq7 ?bq7 ?cq7; (case Fq7 => k_asm); (case mq7 => exact rfl); (case aq7 => exact rfl); (case bq7 => exact rfl); (case cq7 => exact rfl)) | ((with_reducible refine' EI.add ?dq7 ?eq7); (case dq7 => k_extra "sx"); (case eq7 => k_extra "sx")) | ((with_reducible refine' EI.sub ?dq7 ?eq7); (case dq7 => k_extra "sx"); (case eq7 => k_extra "sx")) | ((with_reducible refine' EI.mul ?dq7 ?eq7 ?fq7); (case dq7 => k_extra "sx"); (case eq7 => k_extra "sx"); (case fq7 => mul_fits)) | ((with_reducible refine' EI.mod ?dq7 ?eq7 ?fq7); (case dq7 => k_extra "sx"); (case eq7 => k_extra "sx"); (case fq7 => first | with_reducible assumption | decide | omega))
  k_with "m:eval BinOp" => ((with_reducible show wpAny _ _ (eval (Expr.BinOp _ _ _ _) _) _ _ _); k_dflt (refine' EI.use ?dq7 ?_; (case dq7 => k_extra "sx"); k_whole); intro t'q tk'q)
  k_with "m:exec Assign" => (k_dflt ((first | (with_reducible show wpAny _ _ (exec (Stmt.Assign [Expr.Name _ _] (Expr.BinOp _ _ _ _) _) _) _ _ _) | (with_reducible show wpAny _ _ (exec (Stmt.Assign [Expr.Name _ _] (Expr.Constant (Const.int _) _ _) _) _) _ _ _)); refine' EI.store ?dq7 ?sq7 ?_; (case dq7 => k_extra "sx"); (case sq7 => first | exact rfl | with_unfolding_all rfl); k_whole); intro t'q tk'q)
  k_with "m:eval Compare" => ((with_reducible show wpAny _ _ (eval (Expr.Compare _ _ _ _) _) _ _ _); k_dflt ((first | with_reducible refine' EI.eq ?dq7 ?eq7 ?bq7 ?_ | with_reducible refine' EI.ne ?dq7 ?eq7 ?bq7 ?_); (case dq7 => k_extra "sx"); (case eq7 => k_extra "sx"); (case bq7 => exact rfl); k_whole); intro tk'q)
  k_with "m:isTrue Compare" => ((with_reducible show wpAny _ _ (PySem.isTrue (Expr.Compare _ _ _ _) _ _) _ _ _); k_dflt ((first | with_reducible refine' EI.isEq ?dq7 ?eq7 ?bq7 ?_ | with_reducible refine' EI.isNe ?dq7 ?eq7 ?bq7 ?_ | with_reducible refine' EI.isLt ?dq7 ?eq7 ?bq7 ?_ | with_reducible refine' EI.isGt ?dq7 ?eq7 ?bq7 ?_); (case dq7 => k_extra "sx"); (case eq7 => k_extra "sx"); (case bq7 => exact rfl); k_whole); intro tk'q)
  trivial

-- piece ck
section
variable {prog : Program} {w : World} {A : Around} {h₀ : Heap} {L a : Addr} {cn : Str} {cs : Scope} {ccd : Value} {cl : List (Str × Addr)} {m mg mb : Str → Option Value} {K : Frag} {p : Program} {loose : List Str} {x : Str} {pos p1 : Pos} {f : Value} {Q : Value → Shared → Prop} {E : Value → Shared → Prop} {s : Shared}
theorem callK_go {env : Env} {es : List PySem.Expr} (ef : eval (.Call (.Name x pos) es [] p1) env = (do callWith p1 (← eval (.Name x pos) env) [] (backTo p1 (starEach es env)) (backToKw p1 (keywordEach [] env))))
    (hs : ∀ Q' : Value → Shared → Prop, Q' f s → wpAny (model prog w) A (eval (.Name x pos) env) Q' E s) (k : wpAny (model prog w) A (callWith p1 f [] (backTo p1 (starEach es env)) []) Q E s) : wpAny (model prog w) A (eval (.Call (.Name x pos) es [] p1) env) Q E s :=
  Call_ (hs _ k) ef
theorem callK_V {e1 : PySem.Expr} {v1 : Value} (F : Fr h₀ L s.heap m) (X : K.In h₀) (T : TopRead p loose mg mb h₀) (hn : nsIn K mainGlobals x = some (some f)) (hk : keepIn K f = true) (k1 : cs.kind = .function) (k2 : (envX cn cs L a ccd cl).kindOf x = some .globalImplicit) (k3 : (x == Str.ofString "__debug__") = false) (d1 : EV prog w A s.heap (envX cn cs L a ccd cl) e1 v1) (k : ∀  tk, wpAny (model prog w) A (call f [v1]) Q E { s with toks := tk }) : wpAny (model prog w) A (eval (.Call (.Name x pos) [e1] [] p1) (envX cn cs L a ccd cl)) Q E s :=
  callK_go rfl (fun _ q => nameX_K F X T hn q k1 k2 k3) (callWith_K (Frag.In.keeps X F.keep) hk (args_cons (d1.run _ _ _ rfl fun tk => args_nil ⟨Frag.In.keeps X F.keep, k  _⟩) (d1.plain _)) (d1.plain _) (by rfl))
theorem callK_VV {e1 e2 : PySem.Expr} {v1 : Value} {v2 : Value} (F : Fr h₀ L s.heap m) (X : K.In h₀) (T : TopRead p loose mg mb h₀) (hn : nsIn K mainGlobals x = some (some f)) (hk : keepIn K f = true) (k1 : cs.kind = .function) (k2 : (envX cn cs L a ccd cl).kindOf x = some .globalImplicit) (k3 : (x == Str.ofString "__debug__") = false) (d1 : EV prog w A s.heap (envX cn cs L a ccd cl) e1 v1) (d2 : EV prog w A s.heap (envX cn cs L a ccd cl) e2 v2) (k : ∀  tk, wpAny (model prog w) A (call f [v1, v2]) Q E { s with toks := tk }) : wpAny (model prog w) A (eval (.Call (.Name x pos) [e1, e2] [] p1) (envX cn cs L a ccd cl)) Q E s :=
  callK_go rfl (fun _ q => nameX_K F X T hn q k1 k2 k3) (callWith_K (Frag.In.keeps X F.keep) hk (args_cons (d1.run _ _ _ rfl fun tk => args_cons (d2.run _ _ _ rfl fun tk => args_nil ⟨Frag.In.keeps X F.keep, k  _⟩) (d2.plain _)) (d1.plain _)) (d1.plain _) (by rw [d2.plain]; rfl))
theorem callK_VI {e1 e2 : PySem.Expr} {v1 : Value} {n2 : Int} (F : Fr h₀ L s.heap m) (X : K.In h₀) (T : TopRead p loose mg mb h₀) (hn : nsIn K mainGlobals x = some (some f)) (hk : keepIn K f = true) (k1 : cs.kind = .function) (k2 : (envX cn cs L a ccd cl).kindOf x = some .globalImplicit) (k3 : (x == Str.ofString "__debug__") = false) (d1 : EV prog w A s.heap (envX cn cs L a ccd cl) e1 v1) (d2 : EI prog w A s.heap (envX cn cs L a ccd cl) e2 n2) (k : ∀ t2 tk, wpAny (model prog w) A (call f [v1, .int n2 t2]) Q E { s with toks := tk }) : wpAny (model prog w) A (eval (.Call (.Name x pos) [e1, e2] [] p1) (envX cn cs L a ccd cl)) Q E s :=
  callK_go rfl (fun _ q => nameX_K F X T hn q k1 k2 k3) (callWith_K (Frag.In.keeps X F.keep) hk (args_cons (d1.run _ _ _ rfl fun tk => args_cons (d2.run _ _ _ rfl fun t2 tk => args_nil ⟨Frag.In.keeps X F.keep, k t2 _⟩) (d2.plain _)) (d1.plain _)) (d1.plain _) (by rw [d2.plain]; rfl))
theorem callK_IV {e1 e2 : PySem.Expr} {n1 : Int} {v2 : Value} (F : Fr h₀ L s.heap m) (X : K.In h₀) (T : TopRead p loose mg mb h₀) (hn : nsIn K mainGlobals x = some (some f)) (hk : keepIn K f = true) (k1 : cs.kind = .function) (k2 : (envX cn cs L a ccd cl).kindOf x = some .globalImplicit) (k3 : (x == Str.ofString "__debug__") = false) (d1 : EI prog w A s.heap (envX cn cs L a ccd cl) e1 n1) (d2 : EV prog w A s.heap (envX cn cs L a ccd cl) e2 v2) (k : ∀ t1 tk, wpAny (model prog w) A (call f [.int n1 t1, v2]) Q E { s with toks := tk }) : wpAny (model prog w) A (eval (.Call (.Name x pos) [e1, e2] [] p1) (envX cn cs L a ccd cl)) Q E s :=
  callK_go rfl (fun _ q => nameX_K F X T hn q k1 k2 k3) (callWith_K (Frag.In.keeps X F.keep) hk (args_cons (d1.run _ _ _ rfl fun t1 tk => args_cons (d2.run _ _ _ rfl fun tk => args_nil ⟨Frag.In.keeps X F.keep, k t1 _⟩) (d2.plain _)) (d1.plain _)) (d1.plain _) (by rw [d2.plain]; rfl))
end
theorem lay9 : True := by
  k_with "sv" => (refine' EV.name ?Fq7 ?mq7 ?aq7 ?bq7 ?cq7; (case Fq7 => k_asm); (case mq7 => exact rfl); (case aq7 => exact rfl); (case bq7 => exact rfl); (case cq7 => exact rfl))
  k_with "m:eval Call" => k_dflt (first | ((with_reducible show wpAny _ _ (eval (Expr.Call (Expr.Name _ _) [Expr.Name _ _] [] _) _) _ _ _); refine' callK_V ?Fq7 ?Xq7 ?Tq7 ?hnq7 ?hkq7 ?k1q7 ?k2q7 ?k3q7 ?d1q7 ?_; (case d1q7 => k_extra "sv"); (case Fq7 => k_asm); (case Xq7 => k_asm); (case Tq7 => k_asm); (case k1q7 => exact rfl); (case k2q7 => exact rfl); (case k3q7 => exact rfl); (case hnq7 => k_is); (case hkq7 => k_is); k_whole; intro  tk'q) | ((with_reducible show wpAny _ _ (eval (Expr.Call (Expr.Name _ _) [_] [] _) _) _ _ _); refine' callK_I ?Fq7 ?Xq7 ?Tq7 ?hnq7 ?hkq7 ?k1q7 ?k2q7 ?k3q7 ?d1q7 ?_; (case d1q7 => k_extra "sx"); (case Fq7 => k_asm); (case Xq7 => k_asm); (case Tq7 => k_asm); (case k1q7 => exact rfl); (case k2q7 => exact rfl); (case k3q7 => exact rfl); (case hnq7 => k_is); (case hkq7 => k_is); k_whole; intro t'q tk'q) | ((with_reducible show wpAny _ _ (eval (Expr.Call (Expr.Name _ _) [Expr.Name _ _, Expr.Name _ _] [] _) _) _ _ _); refine' callK_VV ?Fq7 ?Xq7 ?Tq7 ?hnq7 ?hkq7 ?k1q7 ?k2q7 ?k3q7 ?d1q7 ?d2q7 ?_; (case d1q7 => k_extra "sv"); (case d2q7 => k_extra "sv"); (case Fq7 => k_asm); (case Xq7 => k_asm); (case Tq7 => k_asm); (case k1q7 => exact rfl); (case k2q7 => exact rfl); (case k3q7 => exact rfl); (case hnq7 => k_is); (case hkq7 => k_is); k_whole; intro  tk'q) | ((with_reducible show wpAny _ _ (eval (Expr.Call (Expr.Name _ _) [Expr.Name _ _, _] [] _) _) _ _ _); refine' callK_VI ?Fq7 ?Xq7 ?Tq7 ?hnq7 ?hkq7 ?k1q7 ?k2q7 ?k3q7 ?d1q7 ?d2q7 ?_; (case d1q7 => k_extra "sv"); (case d2q7 => k_extra "sx"); (case Fq7 => k_asm); (case Xq7 => k_asm); (case Tq7 => k_asm); (case k1q7 => exact rfl); (case k2q7 => exact rfl); (case k3q7 => exact rfl); (case hnq7 => k_is); (case hkq7 => k_is); k_whole; intro t'q tk'q) | ((with_reducible show wpAny _ _ (eval (Expr.Call (Expr.Name _ _) [_, Expr.Name _ _] [] _) _) _ _ _); refine' callK_IV ?Fq7 ?Xq7 ?Tq7 ?hnq7 ?hkq7 ?k1q7 ?k2q7 ?k3q7 ?d1q7 ?d2q7 ?_; (case d1q7 => k_extra "sx"); (case d2q7 => k_extra "sv"); (case Fq7 => k_asm); (case Xq7 => k_asm); (case Tq7 => k_asm); (case k1q7 => exact rfl); (case k2q7 => exact rfl); (case k3q7 => exact rfl); (case hnq7 => k_is); (case hkq7 => k_is); k_whole; intro t'q tk'q) | ((with_reducible show wpAny _ _ (eval (Expr.Call (Expr.Name _ _) [_, _] [] _) _) _ _ _); refine' callK_II ?Fq7 ?Xq7 ?Tq7 ?hnq7 ?hkq7 ?k1q7 ?k2q7 ?k3q7 ?d1q7 ?d2q7 ?_; (case d1q7 => k_extra "sx"); (case d2q7 => k_extra "sx"); (case Fq7 => k_asm); (case Xq7 => k_asm); (case Tq7 => k_asm); (case k1q7 => exact rfl); (case k2q7 => exact rfl); (case k3q7 => exact rfl); (case hnq7 => k_is); (case hkq7 => k_is); k_whole; intro t'q t'q tk'q) | ((with_reducible show wpAny _ _ (eval (Expr.Call (Expr.Name _ _) [Expr.Name _ _, Expr.Name _ _, Expr.Name _ _] [] _) _) _ _ _); refine' callK_VVV ?Fq7 ?Xq7 ?Tq7 ?hnq7 ?hkq7 ?k1q7 ?k2q7 ?k3q7 ?d1q7 ?d2q7 ?d3q7 ?_; (case d1q7 => k_extra "sv"); (case d2q7 => k_extra "sv"); (case d3q7 => k_extra "sv"); (case Fq7 => k_asm); (case Xq7 => k_asm); (case Tq7 => k_asm); (case k1q7 => exact rfl); (case k2q7 => exact rfl); (case k3q7 => exact rfl); (case hnq7 => k_is); (case hkq7 => k_is); k_whole; intro  tk'q) | ((with_reducible show wpAny _ _ (eval (Expr.Call (Expr.Name _ _) [Expr.Name _ _, Expr.Name _ _, _] [] _) _) _ _ _); refine' callK_VVI ?Fq7 ?Xq7 ?Tq7 ?hnq7 ?hkq7 ?k1q7 ?k2q7 ?k3q7 ?d1q7 ?d2q7 ?d3q7 ?_; (case d1q7 => k_extra "sv"); (case d2q7 => k_extra "sv"); (case d3q7 => k_extra "sx"); (case Fq7 => k_asm); (case Xq7 => k_asm); (case Tq7 => k_asm); (case k1q7 => exact rfl); (case k2q7 => exact rfl); (case k3q7 => exact rfl); (case hnq7 => k_is); (case hkq7 => k_is); k_whole; intro t'q tk'q) | ((with_reducible show wpAny _ _ (eval (Expr.Call (Expr.Name _ _) [Expr.Name _ _, _, Expr.Name _ _] [] _) _) _ _ _); refine' callK_VIV ?Fq7 ?Xq7 ?Tq7 ?hnq7 ?hkq7 ?k1q7 ?k2q7 ?k3q7 ?d1q7 ?d2q7 ?d3q7 ?_; (case d1q7 => k_extra "sv"); (case d2q7 => k_extra "sx"); (case d3q7 => k_extra "sv"); (case Fq7 => k_asm); (case Xq7 => k_asm); (case Tq7 => k_asm); (case k1q7 => exact rfl); (case k2q7 => exact rfl); (case k3q7 => exact rfl); (case hnq7 => k_is); (case hkq7 => k_is); k_whole; intro t'q tk'q) | ((with_reducible show wpAny _ _ (eval (Expr.Call (Expr.Name _ _) [Expr.Name _ _, _, _] [] _) _) _ _ _); refine' callK_VII ?Fq7 ?Xq7 ?Tq7 ?hnq7 ?hkq7 ?k1q7 ?k2q7 ?k3q7 ?d1q7 ?d2q7 ?d3q7 ?_; (case d1q7 => k_extra "sv"); (case d2q7 => k_extra "sx"); (case d3q7 => k_extra "sx"); (case Fq7 => k_asm); (case Xq7 => k_asm); (case Tq7 => k_asm); (case k1q7 => exact rfl); (case k2q7 => exact rfl); (case k3q7 => exact rfl); (case hnq7 => k_is); (case hkq7 => k_is); k_whole; intro t'q t'q tk'q) | ((with_reducible show wpAny _ _ (eval (Expr.Call (Expr.Name _ _) [Expr.Name _ _, Expr.Name _ _, Expr.Name _ _, Expr.Name _ _] [] _) _) _ _ _); refine' callK_VVVV ?Fq7 ?Xq7 ?Tq7 ?hnq7 ?hkq7 ?k1q7 ?k2q7 ?k3q7 ?d1q7 ?d2q7 ?d3q7 ?d4q7 ?_; (case d1q7 => k_extra "sv"); (case d2q7 => k_extra "sv"); (case d3q7 => k_extra "sv"); (case d4q7 => k_extra "sv"); (case Fq7 => k_asm); (case Xq7 => k_asm); (case Tq7 => k_asm); (case k1q7 => exact rfl); (case k2q7 => exact rfl); (case k3q7 => exact rfl); (case hnq7 => k_is); (case hkq7 => k_is); k_whole; intro  tk'q))
  trivial

-- piece eb
structure EB (prog : Program) (w : World) (A : Around) (h : Heap) (env : Env) (e : PySem.Expr) (b : Bool) : Prop where
  run : ∀ (Q : Value → Shared → Prop) (E : Value → Shared → Prop) (s : Shared), s.heap = h → (∀ tk, Q (.bool b) { s with toks := tk }) → wpAny (model prog w) A (eval e env) Q E s
section
variable {prog : Program} {w : World} {A : Around} {h : Heap} {env : Env} {pos : Pos} {i j : Int} {b c : Bool} {e e1 e2 l r : PySem.Expr} {rest : List PySem.Expr}
theorem EB.eq (d1 : EI prog w A h env l i) (d2 : EI prog w A h env r j) (hb : behindInMarks .Eq r = false) : EB prog w A h env (.Compare l [.Eq] [r] pos) (i == j) :=
  ⟨fun _ _ s hs k => wpAny_Compare1 (d1.run _ _ s hs fun _ _ => d2.run _ _ _ hs fun _ _ => eq_int (k _)) hb⟩
theorem EB.ne (d1 : EI prog w A h env l i) (d2 : EI prog w A h env r j) (hb : behindInMarks .NotEq r = false) : EB prog w A h env (.Compare l [.NotEq] [r] pos) (i != j) :=
  ⟨fun _ _ s hs k => wpAny_Compare1 (d1.run _ _ s hs fun _ _ => d2.run _ _ _ hs fun _ _ => ne_int (k _)) hb⟩
theorem EB.lt (d1 : EI prog w A h env l i) (d2 : EI prog w A h env r j) (hb : behindInMarks .Lt r = false) : EB prog w A h env (.Compare l [.Lt] [r] pos) (decide (i < j)) :=
  ⟨fun _ _ s hs k => wpAny_Compare1 (d1.run _ _ s hs fun _ _ => d2.run _ _ _ hs fun _ _ => lt_int (k _)) hb⟩
theorem EB.le (d1 : EI prog w A h env l i) (d2 : EI prog w A h env r j) (hb : behindInMarks .LtE r = false) : EB prog w A h env (.Compare l [.LtE] [r] pos) (decide (i ≤ j)) :=
  ⟨fun _ _ s hs k => wpAny_Compare1 (d1.run _ _ s hs fun _ _ => d2.run _ _ _ hs fun _ _ => le_int (k _)) hb⟩
theorem EB.gt (d1 : EI prog w A h env l i) (d2 : EI prog w A h env r j) (hb : behindInMarks .Gt r = false) : EB prog w A h env (.Compare l [.Gt] [r] pos) (decide (j < i)) :=
  ⟨fun _ _ s hs k => wpAny_Compare1 (d1.run _ _ s hs fun _ _ => d2.run _ _ _ hs fun _ _ => gt_int (k _)) hb⟩
theorem EB.one {op : BoolOp} (d : EB prog w A h env e b) : EB prog w A h env (.BoolOp op [e] pos) b := ⟨fun Q E s hs k => BoolOp_one (d.run Q E s hs k)⟩
theorem EB.or (d1 : EB prog w A h env e1 b) (d2 : b = false → EB prog w A h env (.BoolOp .Or (e2 :: rest) pos) c) : EB prog w A h env (.BoolOp .Or (e1 :: e2 :: rest) pos) (b || c) := ⟨fun Q E s hs k => by
  refine BoolOp_or (d1.run _ _ s hs fun tk => wpAny_truthy_bool ?_)
  cases b with
  | true => exact k tk
  | false => exact (d2 rfl).run _ _ _ hs fun tk' => k tk'⟩
theorem EB.and (d1 : EB prog w A h env e1 b) (d2 : b = true → EB prog w A h env (.BoolOp .And (e2 :: rest) pos) c) : EB prog w A h env (.BoolOp .And (e1 :: e2 :: rest) pos) (b && c) := ⟨fun Q E s hs k => by
  refine BoolOp_and (d1.run _ _ s hs fun tk => wpAny_truthy_bool ?_)
  cases b with
  | false => exact k tk
  | true => exact (d2 rfl).run _ _ _ hs fun tk' => k tk'⟩
theorem EB.use {Q : Value → Shared → Prop} {E : Value → Shared → Prop} {s : Shared} (d : EB prog w A s.heap env e b) (k : ∀ tk, Q (.bool b) { s with toks := tk }) : wpAny (model prog w) A (eval e env) Q E s := d.run _ _ _ rfl k
theorem EB.ret {Q : Flow → Shared → Prop} {E : Value → Shared → Prop} {s : Shared} (d : EB prog w A s.heap env e b) (k : ∀ tk, Q (.ret (.bool b)) { s with toks := tk }) : wpAny (model prog w) A (exec (.Return (some e) pos) env) Q E s := wpAny_Return_some (d.run _ _ _ rfl fun tk => k tk)
end
theorem lay10 : True := by
  k_with "sb" => first | ((with_reducible first | refine' EB.eq ?dq7 ?eq7 ?bq7 | refine' EB.ne ?dq7 ?eq7 ?bq7 | refine' EB.lt ?dq7 ?eq7 ?bq7 | refine' EB.le ?dq7 ?eq7 ?bq7 | refine' EB.gt ?dq7 ?eq7 ?bq7); (case dq7 => k_extra "sx"); (case eq7 => k_extra "sx"); (case bq7 => exact rfl)) | ((with_reducible refine' EB.one ?dq7); (case dq7 => k_extra "sb")) | ((with_reducible refine' EB.or ?dq7 ?eq7); (case dq7 => k_extra "sb"); (case eq7 => intro _; k_extra "sb")) | ((with_reducible refine' EB.and ?dq7 ?eq7); (case dq7 => k_extra "sb"); (case eq7 => intro _; k_extra "sb"))
  k_with "m:eval BoolOp" => (k_dflt (refine' EB.use ?dq7 ?_; (case dq7 => k_extra "sb"); k_whole); intro tk'q)
  k_with "m:eval Compare" => (k_dflt (refine' EB.use ?dq7 ?_; (case dq7 => k_extra "sb"); k_whole); intro tk'q)
  trivial

-- piece lawat
noncomputable def lawAt (ns : List Int) (k : Int) : Int :=
  let number := if k < ns.length then ns.getD k.toNat 0 else 5 * k + 2
  if -1000000000 < number ∧ number < 1000000000 then number else number % 1000003
theorem lawAt_bound (ns : List Int) (k : Int) : -1000000000 < lawAt ns k ∧ lawAt ns k < 1000000000 := by
  unfold lawAt
  dsimp only
  generalize (if k < ns.length then ns.getD k.toNat 0 else 5 * k + 2) = number
  split
  · assumption
  · omega
section
variable {w : World} {p : Program} {loose : List Str} {mean : ExcName → Option Value} {mg mb : Str → Option Value} {dp un : Nat} {gd : Option (List Code)} {A₀ : Around} {env : Env} {outer : List Env} {base h₀ : Heap} {L : Addr} {m : Str → Option Value} {s : Shared} {Q E : Value → Shared → Prop} {news : List (Addr × Obj)}
set_option maxRecDepth 100000 in
set_option maxHeartbeats 8000000 in
theorem law_at_c {l : Addr} {vs : List Value} {ns : List Int} {k : Int} {tk : Tok}
    (hf : env.frame = some L) (hke : env.scope.kind = .function) (hdp : dp ≤ 900) (hun : un ≤ 9000)
    (B : Below A₀ base outer h₀) (F : Fr h₀ L s.heap m) (X : (hd.heap_1 w.params).In h₀) (N : News h₀ L s.heap news) (T : Top p loose mean mg mb h₀)
    (hl : base.IsList l vs.toArray) (hi : IntsAre vs ns) (hns : ns.length ≤ 63) (hk0 : 0 ≤ k)
    (hret : ∀ (t : Tok) (h' : Heap) (tk' : Nat), Fr h₀ L h' m → News h₀ L h' news → -1000000000 < lawAt ns k → lawAt ns k < 1000000000 → Q (.int (lawAt ns k) t) { s with heap := h', toks := tk' }) :
    wpAny (model PR w) (ar dp un gd env outer) (call (.ref 562) [.ref l, .int k tk]) Q E s := by
  refine wpAny_call ?_
  k_dflt k_enter
  k_steps
  all_goals (refine ret_int ?_ (hret _ _ _ (by k_asm) (by k_asm) (lawAt_bound ns k).1 (lawAt_bound ns k).2); clear hret; unfold lawAt; dsimp only; (try rw [Int.fmod_eq_emod_of_nonneg _ (by decide)]); split <;> split <;> first | rfl | omega)
end
theorem lay11 : True := by
  k_with "m:call ref" => ((with_reducible show wpAny _ _ (call (Value.ref 562) [Value.ref _, Value.int _ _] _) _ _ _); k_dflt (refine' law_at_c ?qFq7 ?qKq7 ?qDq7 ?qUq7 ?q1q7 ?q2q7 ?q3q7 ?q4q7 ?q5q7 ?rlq7 ?riq7 ?rnq7 ?r0q7 ?_; (k_extra "std"); (case rlq7 => k_asm); (case riq7 => k_asm); (case rnq7 => (first | assumption | omega)); (case r0q7 => (first | assumption | omega | decide)); k_whole; intro t'q h'q tk'q F'q N'q b1q b2q; (try dsimp only); (try k_sweep)))
  trivial

theorem lay12 : True := by
  k_with_none
  k_with "std" => ((case qFq7 => first | assumption | exact rfl); (case qKq7 => first | assumption | exact rfl); (case qDq7 => ((try simp +zetaDelta only [depth_mark, depth_under_make, depth_under_kw, depth_in1, depth_deeper]); (try dsimp only); omega)); (case qUq7 => ((try simp +zetaDelta only [units_under_make, units_in1, units_deeper, Around.mark_units]); (try dsimp only); omega)); (case q1q7 => k_asm); (case q2q7 => k_asm); (case q3q7 => k_asm); (case q4q7 => k_asm); (case q5q7 => k_asm))
  k_with "m.k_room" => ((show _ < 1000); (try simp +zetaDelta only [depth_mark, depth_under_make, depth_under_kw, depth_in1, depth_deeper]); (try dsimp only); omega)
  k_with "m.k_units" => ((show _ < 9900); (try simp +zetaDelta only [units_under_make, units_in1, units_deeper, Around.mark_units]); (try dsimp only); omega)
  k_with "m.k_enter" => (refine' code_defB ?k1q7 ?k2q7 ?k3q7 ?k4q7 ?k5q7 ?kAq7 ?kFq7 ?kKq7 ?k6q7 ?k7q7 ?k8q7 ?kPq7 ?k9q7 ?kDq7 ?kBq7 ?_ ?c2q7 ?c3q7 ?c4q7 ?c5q7; (case kAq7 => exact rfl); (case kFq7 => first | assumption | exact rfl); (case kKq7 => first | assumption | exact rfl); (case k1q7 => k_asm); (case k2q7 => k_asm); (case k3q7 => k_asm); (case k4q7 => k_asm); (case k5q7 => k_asm); (case k6q7 => k_is); (case k7q7 => k_is); (case k8q7 => k_room); (case kPq7 => first | exact BindsP.nil | exact BindsP.cons BindsP.nil | exact BindsP.cons (BindsP.cons BindsP.nil) | exact BindsP.cons (BindsP.cons (BindsP.cons BindsP.nil)) | exact BindsP.cons (BindsP.cons (BindsP.cons (BindsP.cons BindsP.nil))) | exact BindsP.cons (BindsP.cons (BindsP.cons (BindsP.cons (BindsP.cons BindsP.nil)))) | exact BindsP.cons (BindsP.cons (BindsP.cons (BindsP.cons (BindsP.cons (BindsP.cons BindsP.nil))))) | exact BindsP.cons (BindsP.cons (BindsP.cons (BindsP.cons (BindsP.cons (BindsP.cons (BindsP.cons BindsP.nil)))))) | exact BindsP.cons (BindsP.cons (BindsP.cons (BindsP.cons (BindsP.cons (BindsP.cons (BindsP.cons (BindsP.cons BindsP.nil)))))))); (case k9q7 => first | exact BindsTo.of_eq rfl | exact binds_K (by k_in) rfl (by k_is) rfl rfl rfl | fail "k_enter: no rule for these arguments"); (case kDq7 => kernel_rfl); (case c5q7 => decide); (case kBq7 => exact locs rfl); (case c2q7 => exact rfl); (case c3q7 => exact rfl); (case c4q7 => exact rfl); k_whole; intro g'q L'q h'q FG'q F'q N'q B'q X'q T'q; (try dsimp only [bindMap, List.length_cons, List.length_nil] at F'q ⊢); (try k_lift B'q); (first | refine let q'q : Flow → Shared → Prop := _; let e'q : Value → Shared → Prop := _; let o'q : Around := _; let v'q : Env := _; let a'q : Around := Around.deeper o'q v'q; let s'q : Shared := _; (?_ : wpAny _ a'q (execs _ v'q) q'q e'q s'q) | skip))
  k_with "m:CmpBack" => (unfold PySem.W.CmpBack; (try dsimp only))
  k_with "m:LenBack" => (unfold PySem.W.LenBack; (try dsimp only))
  k_with "m:StrBack" => (unfold PySem.W.StrBack; (try dsimp only))
  k_with "m:BoolBack" => (unfold PySem.W.BoolBack; (try dsimp only))
  k_with "mem" => first | exact List.Mem.head _ | assumption | (refine' List.Mem.tail _ ?_; k_extra "mem")
  k_with "m.k_ne" => (refine neN ?_; (try dsimp only); first | ((refine Nat.ne_of_lt ?_; (repeat (first | with_reducible exact Nat.lt_add_one _ | with_reducible refine Nat.lt_add_one_of_lt ?_)); done)) | ((refine Nat.ne_of_gt ?_; (repeat (first | with_reducible exact Nat.lt_add_one _ | with_reducible refine Nat.lt_add_one_of_lt ?_)); done)) | ((with_reducible refine Nat.ne_of_gt ?_; first | with_reducible assumption | exact And.left (by with_reducible assumption) | exact And.left (And.right (by with_reducible assumption)) | exact And.left (And.right (And.right (by with_reducible assumption))) | exact And.left (And.right (And.right (And.right (by with_reducible assumption)))) | exact And.left (And.right (And.right (And.right (And.right (by with_reducible assumption))))) | exact And.left (And.right (And.right (And.right (And.right (And.right (by with_reducible assumption)))))) | exact And.left (And.right (And.right (And.right (And.right (And.right (And.right (by with_reducible assumption))))))) | exact And.left (And.right (And.right (And.right (And.right (And.right (And.right (And.right (by with_reducible assumption)))))))) | exact And.left (And.right (And.right (And.right (And.right (And.right (And.right (And.right (And.right (by with_reducible assumption))))))))))) | omega)
  k_with "m.k_mem" => k_extra "mem"
  k_with "m:eval Call" => ((with_reducible show wpAny _ _ (eval (Expr.Call (Expr.Name _ _) _ [] _) _) _ _ _); k_dflt (refine Call_ ?_))
  k_with "m:eval Call Attribute" => ((with_reducible show wpAny _ _ (eval (Expr.Call (Expr.Attribute _ _ _) _ [] _) _) _ _ _); k_dflt (refine MethodCall_ ?_))
  k_with "m:newTuple" => (k_here; k_dflt (refine' kup_newTuple ?Fq7 ?Nq7 ?_ ?zq7; (case Fq7 => k_asm); (case Nq7 => k_asm); (case zq7 => kmk_size)); intro D'q h'q F'q N'q l1q; clear l1q; (try k_sweep))
  k_with "m.k_steps" => repeat' (first | ((fail_if_success (fail_if_success k_unfold)); first | ((with_reducible refine (?_ : wpAny _ _ _ _ _ _)); (try dsimp only)) | (k_unfold; (try dsimp only))) | ((fail_if_success (fail_if_success k_fold)); refine let q'q : _ → _ → Prop := _; let s'q : Shared := _; (?_ : wpAny _ _ _ q'q _ s'q)) | (k_end; kc_close) | walk1 | (dsimp only; walk1) | (show (_ : _ → _ → Prop) _ _; k_unfold; (try dsimp only)) | (dsimp only [List.cons_append, List.nil_append]; walk1) | (leave1; walk_say "STEP leave1"; (try dsimp only)) | fail "no step")
  k_with "m.units_room" => ((have hcL'q := cLine_is); (simp +zetaDelta only [units_in1, units_deeper, Around.mark_units, units_caller, units_under_make]); omega)
  k_with "m.k_in" => first | with_reducible assumption | exact Frag.In.keeps (by k_asm) (Fr.keep (by k_asm))
  k_with "m:call ref" => ((with_reducible show wpAny _ _ (call (Value.ref 562) [Value.ref _, Value.int _ _] _) _ _ _); k_dflt (refine' law_at_c ?qFq7 ?qKq7 ?qDq7 ?qUq7 ?q1q7 ?q2q7 ?q3q7 ?q4q7 ?q5q7 ?rlq7 ?riq7 ?rnq7 ?r0q7 ?_; (k_extra "std"); (case rlq7 => k_asm); (case riq7 => k_asm); (case rnq7 => (first | assumption | omega)); (case r0q7 => (first | assumption | omega | decide)); k_whole; intro t'q h'q tk'q F'q N'q b1q b2q; (try dsimp only); (try k_sweep)))
  trivial
-- piece octets
structure OctN (n : Int) : Prop where
  lo : -1000000000 < n
  hi : n < 1000000000
theorem octN_next {n k : Int} (h : OctN n) (h0 : 0 ≤ k) (h1 : k < 100000) : OctN (n.fdiv 256 + 37 * k) := by
  have a := h.lo
  have b := h.hi
  constructor
  · rw [Int.fdiv_eq_ediv_of_nonneg _ (by omega)]; omega
  · rw [Int.fdiv_eq_ediv_of_nonneg _ (by omega)]; omega
theorem oct8 (x : Int) : x.fmod 9 ≤ ((8 : Nat) : Int) := by have := Int.fmod_lt_of_pos x (show (0 : Int) < 9 by decide); omega
theorem oct6 (x : Int) : x.fmod 7 ≤ ((6 : Nat) : Int) := by have := Int.fmod_lt_of_pos x (show (0 : Int) < 7 by decide); omega
theorem in_nil : KBa.In [] := fun _ h => nomatch h
theorem in_app {l : List Int} {n : Int} (h : KBa.In l) : KBa.In (l ++ [n.fmod 256]) := by
  intro v hv
  rcases List.mem_append.mp hv with hv | hv
  · exact h v hv
  · have e := List.mem_singleton.mp hv
    subst e
    exact ⟨Int.fmod_nonneg_of_pos _ (by decide), Int.fmod_lt_of_pos _ (by decide)⟩
theorem oct_size {ns : List Int} {n : Nat} {z : Int} (h : ns.length = n) (e : n = (z - 0).toNat) (h0 : 0 ≤ z) : ((byteArr ns).size : Int) = z := by
  have e2 : (byteArr ns).size = ns.length := by
    show ((ns.map fun n => n.toNat.toUInt8).toArray).size = _
    simp
  rw [e2, h, e]; omega
theorem lay13 : True := by
  k_with "m:call type:bytes" => ((with_reducible show wpAny _ _ (call (Value.type "bytes") [Value.ref _]) _ _ _); (simp only [rangeKs_length] at *); walk_at "call type:bytes")
  trivial
section
variable {w : World} {p : Program} {loose : List Str} {mean : ExcName → Option Value} {mg mb : Str → Option Value} {dp un : Nat} {gd : Option (List Code)} {A₀ : Around} {env : Env} {outer : List Env} {base h₀ : Heap} {L : Addr} {m : Str → Option Value} {s : Shared} {Q E : Value → Shared → Prop} {news : List (Addr × Obj)}
set_option maxRecDepth 100000 in
set_option maxHeartbeats 8000000 in
theorem octets_c {number size : Int} {tn ts : Tok} {mx : Nat}
    (hf : env.frame = some L) (hke : env.scope.kind = .function) (hdp : dp ≤ 900) (hun : un ≤ 9000)
    (B : Below A₀ base outer h₀) (F : Fr h₀ L s.heap m) (X : (hd.heap_1 w.params).In h₀) (N : News h₀ L s.heap news) (T : Top p loose mean mg mb h₀)
    (hn : OctN number) (hs : 0 ≤ size) (hs2 : size < 100000) (hs3 : size ≤ (mx : Int))
    (hret : ∀ (b : Array UInt8) (t : Tok) (h' : Heap) (tk' : Nat), Fr h₀ L h' m → News h₀ L h' news → (b.size : Int) = size → b.size ≤ mx → Q (.bytes b t) { s with heap := h', toks := tk' }) :
    wpAny (model PR w) (ar dp un gd env outer) (call (.ref 621) [.int number tn, .int size ts]) Q E s := by
  k_with "pyIter ref" => k_state (fun pre number told => OctN number ∧ told.length = pre.length ∧ KBa.In told) "number" "told"
  k_with "state" => (refine And.intro (by first | assumption | exact octN_next (by assumption) (by omega) (by omega)) (And.intro (by first | rfl | (simp only [List.length_append, List.length_cons, List.length_nil]; omega)) (by first | exact in_nil | exact in_app (by assumption))))
  have hnil : IntsAre [] [] := by (repeat constructor)
  refine wpAny_call ?_
  k_dflt k_enter
  repeat' (first | (k_unfold; (try dsimp only)) | (k_end; kc_close) | walk1 | (dsimp only; walk1) | (leave1; walk_say "STEP leave1"; (try dsimp only)) | fail "no step")
  exact hret _ _ _ _ (by k_asm) (cb_drop (by k_asm) (by repeat (first | exact (fun _ h9 => h9) | refine sub_tail ?_))) (oct_size (by assumption) rfl hs) (by have h9 := oct_size (by assumption) rfl hs; omega)
theorem lay14 : True := by
  k_with "m:call ref" => ((with_reducible show wpAny _ _ (call (Value.ref 621) [Value.int _ _, Value.int _ _] _) _ _ _); k_dflt (refine' octets_c ?qFq7 ?qKq7 ?qDq7 ?qUq7 ?q1q7 ?q2q7 ?q3q7 ?q4q7 ?q5q7 ?rnq7 ?r0q7 ?r1q7 ?r3q7 ?_; (k_extra "std"); (case rnq7 => (exact ⟨by first | assumption | omega, by first | assumption | omega⟩)); (case r0q7 => (first | assumption | exact Int.fmod_nonneg_of_pos _ (by decide) | omega)); (case r1q7 => (first | assumption | exact Int.lt_trans (Int.fmod_lt_of_pos _ (by decide)) (by decide) | omega)); (case r3q7 => (first | exact oct8 _ | exact oct6 _)); k_whole; intro b'q t'q h'q tk'q F'q N'q bsq bzq; (try dsimp only); (try k_sweep)))
  trivial
end

-- piece pow3
theorem pm_fold (b e m : Nat) : ∀ n, (List.range n).reverse.foldl (fun p i => if e.testBit i then p * p % m * b % m else p * p % m) (b ^ (e >>> n) % m) = b ^ e % m
  | 0 => by simp
  | n + 1 => by
    rw [List.range_succ, List.reverse_append, List.reverse_cons, List.reverse_nil, List.nil_append, List.cons_append, List.nil_append, List.foldl_cons]
    refine Eq.trans ?_ (pm_fold b e m n)
    congr 1
    have hs : e >>> (n + 1) = (e >>> n) / 2 := Nat.shiftRight_succ e n
    have ht : e.testBit n = decide ((e >>> n) % 2 = 1) := by rw [Nat.testBit_eq_decide_div_mod_eq, Nat.shiftRight_eq_div_pow]
    rw [hs, ht]
    generalize e >>> n = k
    have hk : k = 2 * (k / 2) + k % 2 := by omega
    have hsq : b ^ (k / 2) % m * (b ^ (k / 2) % m) % m = b ^ (2 * (k / 2)) % m := by
      rw [← Nat.mul_mod, ← Nat.pow_add]; congr 2; omega
    by_cases h : k % 2 = 1
    · rw [decide_eq_true h, if_pos rfl, hsq]
      have : b ^ k = b ^ (2 * (k / 2)) * b := by rw [← Nat.pow_succ]; congr 1; omega
      rw [this, Nat.mod_mul_mod]
    · rw [decide_eq_false h, if_neg Bool.false_ne_true, hsq]
      congr 2; omega
theorem powMod_eq (b e m : Nat) : Builtin.powMod b e m = b ^ e % m := by
  unfold Builtin.powMod
  have hz : e >>> (Builtin.Int.intBits (e : Int)) = 0 := by
    rw [Nat.shiftRight_eq_div_pow]
    refine Nat.div_eq_of_lt ?_
    unfold Builtin.Int.intBits
    by_cases h : e = 0
    · subst h; decide
    · rw [if_neg (by simpa using h), Int.natAbs_natCast]
      exact Nat.lt_log2_self
  have h := pm_fold b e m (Builtin.Int.intBits (e : Int))
  rw [hz, Nat.pow_zero] at h
  exact h
namespace PW3
theorem entry : entryFor table "pow" = some Builtin.«pow» := entryFor_of_tree (by kernel_rfl)
theorem kind : builtinKind "pow" = none := by kernel_rfl
theorem plain : plainId "pow" = true := by decide +kernel
theorem args (a b c : Value) : argsOk "pow" ⟨[a, b, c], []⟩ := by unfold argsOk; kernel_rfl
theorem args3 (a b c : Value) : argsOk "int.__pow__" ⟨[a, b, c], []⟩ := by unfold argsOk; kernel_rfl
theorem look : typeLookup (.type "int") (Str.ofString "__pow__") = pure (some (.builtin "int.__pow__")) := slot_int_pow.lookup
theorem if_not {α : Type} {M : Model} {A : Around} {E : Value → Shared → Prop} {s : Shared} {c : Bool} {a b : Sem α} {Q : α → Shared → Prop} (hc : c = false) (h : wpAny M A b Q E s) : wpAny M A (if c = true then a else b) Q E s := by
  subst hc
  exact h
end PW3
section
variable {prog : Program} {w : World} {A : Around} {E : Value → Shared → Prop} {s : Shared} {Q : Value → Shared → Prop} {a e m : Int} {t u v : Tok}
theorem call_int_pow3 (he : 0 ≤ e) (hm : 1 < m) (h : Q (.int ((a % m) ^ e.toNat % m) s.toks) { s with toks := s.toks + 1 }) :
    wpAny (model prog w) A (call (.builtin "int.__pow__") [.int a t, .int e u, .int m v]) (fun v s' => v ≠ .notImplemented ∧ Q v s') E s := by
  refine wpAny_call_entry slot_int_pow (typeIs_int s a t) entry_int_pow ?_ (PW3.args3 _ _ _)
  show wpAny _ _ (if (m == 0) = true then _ else _) _ _ s
  refine PW3.if_not (by simpa using (show m ≠ 0 by omega)) ?_
  show wpAny _ _ (if (m.natAbs == 1) = true then _ else _) _ _ s
  refine PW3.if_not (by simpa using (show m.natAbs ≠ 1 by omega)) ?_
  show wpAny _ _ (if e < 0 then _ else _) _ _ s
  rw [if_neg (by omega)]
  show wpAny _ _ (mkInt (if (decide (m < 0) && (((Builtin.powMod (a % (m.natAbs : Int)).toNat e.natAbs m.natAbs : Nat) : Int) != 0)) = true then _ else ((Builtin.powMod (a % (m.natAbs : Int)).toNat e.natAbs m.natAbs : Nat) : Int)) >>= fun x => ret x) _ _ s
  rw [decide_eq_false (show ¬ m < 0 by omega), Bool.false_and, if_neg Bool.false_ne_true, powMod_eq]
  refine wpAny_ret_mkInt ⟨by simp, ?_⟩
  have e1 : (m.natAbs : Int) = m := by omega
  have e2 : ((a % (m.natAbs : Int)).toNat : Int) = a % m := by rw [e1]; exact Int.toNat_of_nonneg (Int.emod_nonneg _ (by omega))
  have e3 : e.natAbs = e.toNat := by omega
  have e4 : (((a % (m.natAbs : Int)).toNat ^ e.natAbs % m.natAbs : Nat) : Int) = (a % m) ^ e.toNat % m := by
    rw [Int.natCast_emod, Int.natCast_pow, e2, e1, e3]
  rw [e4]
  exact h
theorem call_pow3 (he : 0 ≤ e) (hm : 1 < m) (h : Q (.int ((a % m) ^ e.toNat % m) s.toks) { s with toks := s.toks + 1 }) :
    wpAny (model prog w) A (call (.builtin "pow") [.int a t, .int e u, .int m v]) Q E s := by
  refine call_function_entry PW3.kind PW3.plain PW3.entry (PW3.args _ _ _) ?_
  unfold Builtin.«pow»
  refine wpAny_bind (wpAny_of_eq (a := [some (.int a t), some (.int e u), some (.int m v)]) (by kernel_rfl) ?_)
  show wpAny _ _ (rule "pow.mod" >>= fun _ => _) _ _ s
  refine wpAny_bind (wpAny_rule ?_)
  refine wpAny_bind (wpAny_of_eq (a := .type "int") rfl ?_)
  show wpAny _ _ (typeLookup (.type "int") (Str.ofString "__pow__") >>= fun x => _) _ _ s
  rw [PW3.look]
  refine wpAny_bind (wpAny_pure ?_)
  show wpAny _ _ (callSpecial? (.int a t) (Str.ofString "__pow__") [.int e u, .int m v] >>= fun x => _) _ _ s
  refine wpAny_bind (wpAny_callSpecial?_slot (name := Str.ofString "__pow__") (typeIs_int s a t) slot_int_pow (wpAny_mono (call_int_pow3 he hm h) (fun r s' hr => ?_) fun _ _ z => z))
  show wpAny _ _ (if (r != .notImplemented) = true then _ else _) _ _ s'
  rw [if_pos (by simpa using hr.1)]
  exact wpAny_pure ⟨_, rfl, hr.2⟩
end
theorem lay15 : True := by
  k_with "m:call builtin:pow" => ((with_reducible show wpAny _ _ (call (Value.builtin "pow") [Value.int _ _, Value.int _ _, Value.int _ _]) _ _ _); k_dflt (refine call_pow3 (by first | assumption | omega | exact Int.fdiv_nonneg (by omega) (by decide)) (by first | assumption | omega) ?_))
  trivial

theorem lay16 : True := by
  k_with "m.omega" => first | with_reducible assumption | (with_reducible show (_ : Nat) ≤ _; first | exact Nat.le_of_ble_eq_true rfl | exact omA (by with_reducible assumption) rfl | exact omB (by with_reducible assumption) rfl | exact omC (by with_reducible assumption) rfl) | (with_reducible show (_ : Nat) < _; first | exact Nat.le_of_ble_eq_true rfl | exact omD (by with_reducible assumption) rfl | exact omE (by with_reducible assumption) rfl) | (with_reducible show (_ : Int) ≤ _; first | decide | exact oiA (by with_reducible assumption) rfl | exact oiE (by with_reducible assumption) rfl | exact oiC (by with_reducible assumption) rfl | exact oiH (by with_reducible assumption) rfl) | (with_reducible show (_ : Int) < _; first | decide | exact oiB (by with_reducible assumption) rfl | exact oiF (by with_reducible assumption) rfl | exact oiG (by with_reducible assumption) rfl | exact oiD (by with_reducible assumption) rfl) | (with_reducible show ¬ ((_ : Int) = _); exact oiI (by with_reducible assumption) rfl) | lia
  k_with "sx" => first | with_reducible exact EI.const | ((with_reducible show EI _ _ _ _ _ (Expr.Name _ _) _); refine' EI.name ?Fq7 ?mq7 ?aq7 ?bq7 ?cq7; (case Fq7 => k_asm); (case mq7 => exact rfl); (case aq7 => exact rfl); (case bq7 => exact rfl); (case cq7 => exact rfl)) | ((with_reducible refine' EI.add ?dq7 ?eq7); (case dq7 => k_extra "sx"); (case eq7 => k_extra "sx")) | ((with_reducible refine' EI.sub ?dq7 ?eq7); (case dq7 => k_extra "sx"); (case eq7 => k_extra "sx")) | ((with_reducible refine' EI.mul ?dq7 ?eq7 ?fq7); (case dq7 => k_extra "sx"); (case eq7 => k_extra "sx"); (case fq7 => mul_fits)) | ((with_reducible refine' EI.mod ?dq7 ?eq7 ?fq7); (case dq7 => k_extra "sx"); (case eq7 => k_extra "sx"); (case fq7 => first | with_reducible assumption | decide | omega))
  k_with "m:eval BinOp" => ((with_reducible show wpAny _ _ (eval (Expr.BinOp _ _ _ _) _) _ _ _); k_dflt (refine' EI.use ?dq7 ?_; (case dq7 => k_extra "sx"); k_whole); intro t'q tk'q)
  k_with "m:exec Assign" => (k_dflt ((first | (with_reducible show wpAny _ _ (exec (Stmt.Assign [Expr.Name _ _] (Expr.BinOp _ _ _ _) _) _) _ _ _) | (with_reducible show wpAny _ _ (exec (Stmt.Assign [Expr.Name _ _] (Expr.Constant (Const.int _) _ _) _) _) _ _ _)); refine' EI.store ?dq7 ?sq7 ?_; (case dq7 => k_extra "sx"); (case sq7 => first | exact rfl | with_unfolding_all rfl); k_whole); intro t'q tk'q)
  k_with "m:eval Compare" => ((with_reducible show wpAny _ _ (eval (Expr.Compare _ _ _ _) _) _ _ _); k_dflt ((first | with_reducible refine' EI.eq ?dq7 ?eq7 ?bq7 ?_ | with_reducible refine' EI.ne ?dq7 ?eq7 ?bq7 ?_); (case dq7 => k_extra "sx"); (case eq7 => k_extra "sx"); (case bq7 => exact rfl); k_whole); intro tk'q)
  k_with "m:isTrue Compare" => ((with_reducible show wpAny _ _ (PySem.isTrue (Expr.Compare _ _ _ _) _ _) _ _ _); k_dflt ((first | with_reducible refine' EI.isEq ?dq7 ?eq7 ?bq7 ?_ | with_reducible refine' EI.isNe ?dq7 ?eq7 ?bq7 ?_ | with_reducible refine' EI.isLt ?dq7 ?eq7 ?bq7 ?_ | with_reducible refine' EI.isGt ?dq7 ?eq7 ?bq7 ?_); (case dq7 => k_extra "sx"); (case eq7 => k_extra "sx"); (case bq7 => exact rfl); k_whole); intro tk'q)
  k_with "sv" => (refine' EV.name ?Fq7 ?mq7 ?aq7 ?bq7 ?cq7; (case Fq7 => k_asm); (case mq7 => exact rfl); (case aq7 => exact rfl); (case bq7 => exact rfl); (case cq7 => exact rfl))
  k_with "m:eval Call" => k_dflt (first | ((with_reducible show wpAny _ _ (eval (Expr.Call (Expr.Name _ _) [Expr.Name _ _] [] _) _) _ _ _); refine' callK_V ?Fq7 ?Xq7 ?Tq7 ?hnq7 ?hkq7 ?k1q7 ?k2q7 ?k3q7 ?d1q7 ?_; (case d1q7 => k_extra "sv"); (case Fq7 => k_asm); (case Xq7 => k_asm); (case Tq7 => k_asm); (case k1q7 => exact rfl); (case k2q7 => exact rfl); (case k3q7 => exact rfl); (case hnq7 => k_is); (case hkq7 => k_is); k_whole; intro  tk'q) | ((with_reducible show wpAny _ _ (eval (Expr.Call (Expr.Name _ _) [_] [] _) _) _ _ _); refine' callK_I ?Fq7 ?Xq7 ?Tq7 ?hnq7 ?hkq7 ?k1q7 ?k2q7 ?k3q7 ?d1q7 ?_; (case d1q7 => k_extra "sx"); (case Fq7 => k_asm); (case Xq7 => k_asm); (case Tq7 => k_asm); (case k1q7 => exact rfl); (case k2q7 => exact rfl); (case k3q7 => exact rfl); (case hnq7 => k_is); (case hkq7 => k_is); k_whole; intro t'q tk'q) | ((with_reducible show wpAny _ _ (eval (Expr.Call (Expr.Name _ _) [Expr.Name _ _, Expr.Name _ _] [] _) _) _ _ _); refine' callK_VV ?Fq7 ?Xq7 ?Tq7 ?hnq7 ?hkq7 ?k1q7 ?k2q7 ?k3q7 ?d1q7 ?d2q7 ?_; (case d1q7 => k_extra "sv"); (case d2q7 => k_extra "sv"); (case Fq7 => k_asm); (case Xq7 => k_asm); (case Tq7 => k_asm); (case k1q7 => exact rfl); (case k2q7 => exact rfl); (case k3q7 => exact rfl); (case hnq7 => k_is); (case hkq7 => k_is); k_whole; intro  tk'q) | ((with_reducible show wpAny _ _ (eval (Expr.Call (Expr.Name _ _) [Expr.Name _ _, _] [] _) _) _ _ _); refine' callK_VI ?Fq7 ?Xq7 ?Tq7 ?hnq7 ?hkq7 ?k1q7 ?k2q7 ?k3q7 ?d1q7 ?d2q7 ?_; (case d1q7 => k_extra "sv"); (case d2q7 => k_extra "sx"); (case Fq7 => k_asm); (case Xq7 => k_asm); (case Tq7 => k_asm); (case k1q7 => exact rfl); (case k2q7 => exact rfl); (case k3q7 => exact rfl); (case hnq7 => k_is); (case hkq7 => k_is); k_whole; intro t'q tk'q) | ((with_reducible show wpAny _ _ (eval (Expr.Call (Expr.Name _ _) [_, Expr.Name _ _] [] _) _) _ _ _); refine' callK_IV ?Fq7 ?Xq7 ?Tq7 ?hnq7 ?hkq7 ?k1q7 ?k2q7 ?k3q7 ?d1q7 ?d2q7 ?_; (case d1q7 => k_extra "sx"); (case d2q7 => k_extra "sv"); (case Fq7 => k_asm); (case Xq7 => k_asm); (case Tq7 => k_asm); (case k1q7 => exact rfl); (case k2q7 => exact rfl); (case k3q7 => exact rfl); (case hnq7 => k_is); (case hkq7 => k_is); k_whole; intro t'q tk'q) | ((with_reducible show wpAny _ _ (eval (Expr.Call (Expr.Name _ _) [_, _] [] _) _) _ _ _); refine' callK_II ?Fq7 ?Xq7 ?Tq7 ?hnq7 ?hkq7 ?k1q7 ?k2q7 ?k3q7 ?d1q7 ?d2q7 ?_; (case d1q7 => k_extra "sx"); (case d2q7 => k_extra "sx"); (case Fq7 => k_asm); (case Xq7 => k_asm); (case Tq7 => k_asm); (case k1q7 => exact rfl); (case k2q7 => exact rfl); (case k3q7 => exact rfl); (case hnq7 => k_is); (case hkq7 => k_is); k_whole; intro t'q t'q tk'q) | ((with_reducible show wpAny _ _ (eval (Expr.Call (Expr.Name _ _) [Expr.Name _ _, Expr.Name _ _, Expr.Name _ _] [] _) _) _ _ _); refine' callK_VVV ?Fq7 ?Xq7 ?Tq7 ?hnq7 ?hkq7 ?k1q7 ?k2q7 ?k3q7 ?d1q7 ?d2q7 ?d3q7 ?_; (case d1q7 => k_extra "sv"); (case d2q7 => k_extra "sv"); (case d3q7 => k_extra "sv"); (case Fq7 => k_asm); (case Xq7 => k_asm); (case Tq7 => k_asm); (case k1q7 => exact rfl); (case k2q7 => exact rfl); (case k3q7 => exact rfl); (case hnq7 => k_is); (case hkq7 => k_is); k_whole; intro  tk'q) | ((with_reducible show wpAny _ _ (eval (Expr.Call (Expr.Name _ _) [Expr.Name _ _, Expr.Name _ _, _] [] _) _) _ _ _); refine' callK_VVI ?Fq7 ?Xq7 ?Tq7 ?hnq7 ?hkq7 ?k1q7 ?k2q7 ?k3q7 ?d1q7 ?d2q7 ?d3q7 ?_; (case d1q7 => k_extra "sv"); (case d2q7 => k_extra "sv"); (case d3q7 => k_extra "sx"); (case Fq7 => k_asm); (case Xq7 => k_asm); (case Tq7 => k_asm); (case k1q7 => exact rfl); (case k2q7 => exact rfl); (case k3q7 => exact rfl); (case hnq7 => k_is); (case hkq7 => k_is); k_whole; intro t'q tk'q) | ((with_reducible show wpAny _ _ (eval (Expr.Call (Expr.Name _ _) [Expr.Name _ _, _, Expr.Name _ _] [] _) _) _ _ _); refine' callK_VIV ?Fq7 ?Xq7 ?Tq7 ?hnq7 ?hkq7 ?k1q7 ?k2q7 ?k3q7 ?d1q7 ?d2q7 ?d3q7 ?_; (case d1q7 => k_extra "sv"); (case d2q7 => k_extra "sx"); (case d3q7 => k_extra "sv"); (case Fq7 => k_asm); (case Xq7 => k_asm); (case Tq7 => k_asm); (case k1q7 => exact rfl); (case k2q7 => exact rfl); (case k3q7 => exact rfl); (case hnq7 => k_is); (case hkq7 => k_is); k_whole; intro t'q tk'q) | ((with_reducible show wpAny _ _ (eval (Expr.Call (Expr.Name _ _) [Expr.Name _ _, _, _] [] _) _) _ _ _); refine' callK_VII ?Fq7 ?Xq7 ?Tq7 ?hnq7 ?hkq7 ?k1q7 ?k2q7 ?k3q7 ?d1q7 ?d2q7 ?d3q7 ?_; (case d1q7 => k_extra "sv"); (case d2q7 => k_extra "sx"); (case d3q7 => k_extra "sx"); (case Fq7 => k_asm); (case Xq7 => k_asm); (case Tq7 => k_asm); (case k1q7 => exact rfl); (case k2q7 => exact rfl); (case k3q7 => exact rfl); (case hnq7 => k_is); (case hkq7 => k_is); k_whole; intro t'q t'q tk'q) | ((with_reducible show wpAny _ _ (eval (Expr.Call (Expr.Name _ _) [Expr.Name _ _, Expr.Name _ _, Expr.Name _ _, Expr.Name _ _] [] _) _) _ _ _); refine' callK_VVVV ?Fq7 ?Xq7 ?Tq7 ?hnq7 ?hkq7 ?k1q7 ?k2q7 ?k3q7 ?d1q7 ?d2q7 ?d3q7 ?d4q7 ?_; (case d1q7 => k_extra "sv"); (case d2q7 => k_extra "sv"); (case d3q7 => k_extra "sv"); (case d4q7 => k_extra "sv"); (case Fq7 => k_asm); (case Xq7 => k_asm); (case Tq7 => k_asm); (case k1q7 => exact rfl); (case k2q7 => exact rfl); (case k3q7 => exact rfl); (case hnq7 => k_is); (case hkq7 => k_is); k_whole; intro  tk'q))
  k_with "sb" => first | ((with_reducible first | refine' EB.eq ?dq7 ?eq7 ?bq7 | refine' EB.ne ?dq7 ?eq7 ?bq7 | refine' EB.lt ?dq7 ?eq7 ?bq7 | refine' EB.le ?dq7 ?eq7 ?bq7 | refine' EB.gt ?dq7 ?eq7 ?bq7); (case dq7 => k_extra "sx"); (case eq7 => k_extra "sx"); (case bq7 => exact rfl)) | ((with_reducible refine' EB.one ?dq7); (case dq7 => k_extra "sb")) | ((with_reducible refine' EB.or ?dq7 ?eq7); (case dq7 => k_extra "sb"); (case eq7 => intro _; k_extra "sb")) | ((with_reducible refine' EB.and ?dq7 ?eq7); (case dq7 => k_extra "sb"); (case eq7 => intro _; k_extra "sb"))
  k_with "m:eval BoolOp" => (k_dflt (refine' EB.use ?dq7 ?_; (case dq7 => k_extra "sb"); k_whole); intro tk'q)
  k_with "m:eval Compare" => (k_dflt (refine' EB.use ?dq7 ?_; (case dq7 => k_extra "sb"); k_whole); intro tk'q)
  trivial
-- piece lcurve
noncomputable def primesL : List Nat := [7, 19, 31, 43, 67, 79, 103, 127]
noncomputable def badN (p b : Nat) : Bool := b == 0 || (p - b) ^ ((p - 1) / 3) % p == 1
noncomputable def distN (p : Nat) : Nat → Nat → Nat
  | 0, _ => 0
  | n + 1, b => if badN p b then distN p n ((b + 1) % p) + 1 else 0
theorem dist_falls : (primesL.all fun p => (List.range p).all fun b => !badN p b || decide (distN p 130 ((b + 1) % p) < distN p 130 b)) = true := by decide +kernel
noncomputable def curveMeas (p b : Int) : Nat := distN p.toNat 130 b.toNat
noncomputable def primeI (p : Int) : Prop := 0 ≤ p ∧ p.toNat ∈ primesL
theorem primeI.bd {p : Int} (h : primeI p) : 7 ≤ p ∧ p ≤ 127 := by
  obtain ⟨h0, h1⟩ := h
  have : ∀ q ∈ primesL, 7 ≤ q ∧ q ≤ 127 := by decide
  have := this _ h1
  omega
noncomputable def badI (p b : Int) : Prop := b = 0 ∨ ((p - b) % p) ^ ((p - 1).fdiv 3).toNat % p = 1
theorem badI_N {p b : Int} (h : primeI p) (hb0 : 0 ≤ b) (hb1 : b < p) (hbad : badI p b) : badN p.toNat b.toNat = true := by
  unfold badN
  rw [Bool.or_eq_true, beq_iff_eq, beq_iff_eq]
  obtain ⟨P, rfl⟩ := Int.eq_ofNat_of_zero_le h.1
  obtain ⟨b', rfl⟩ := Int.eq_ofNat_of_zero_le hb0
  have hbd := h.bd
  rw [Int.toNat_natCast, Int.toNat_natCast]
  by_cases hz : b' = 0
  · exact .inl hz
  · right
    rcases hbad with e | e
    · exact absurd (by omega) hz
    · have e1 : ((P : Int) - (b' : Int)) % (P : Int) = ((P - b' : Nat) : Int) := by rw [Int.emod_eq_of_lt (by omega) (by omega)]; omega
      have e2 : ((P : Int) - 1).fdiv 3 = (((P - 1) / 3 : Nat) : Int) := by rw [Int.fdiv_eq_ediv_of_nonneg _ (by decide)]; omega
      rw [e1, e2, Int.toNat_natCast, ← Int.natCast_pow, ← Int.natCast_emod] at e
      omega
theorem curve_meas {p b : Int} (h : primeI p) (hb0 : 0 ≤ b) (hb1 : b < p) (hbad : badI p b) : curveMeas p ((b + 1).fmod p) < curveMeas p b := by
  have hbad' := badI_N h hb0 hb1 hbad
  have hall := dist_falls
  rw [List.all_eq_true] at hall
  have h1 := hall _ h.2
  rw [List.all_eq_true] at h1
  have h2 := h1 b.toNat (List.mem_range.mpr (by have := h.bd; omega))
  rw [hbad', Bool.not_true, Bool.false_or, decide_eq_true_eq] at h2
  unfold curveMeas
  rw [Int.fmod_eq_emod_of_nonneg _ h.1]
  have e : ((b + 1) % p).toNat = (b.toNat + 1) % p.toNat := by
    obtain ⟨P, rfl⟩ := Int.eq_ofNat_of_zero_le h.1
    obtain ⟨b', rfl⟩ := Int.eq_ofNat_of_zero_le hb0
    rw [Int.toNat_natCast, Int.toNat_natCast, show ((b' : Int) + 1) = ((b' + 1 : Nat) : Int) by omega, ← Int.natCast_emod, Int.toNat_natCast]
  rw [e]; exact h2
section
variable {w : World} {p : Program} {loose : List Str} {mean : ExcName → Option Value} {mg mb : Str → Option Value} {dp un : Nat} {gd : Option (List Code)} {A₀ : Around} {env : Env} {outer : List Env} {base h₀ : Heap} {L : Addr} {m : Str → Option Value} {s : Shared} {Q E : Value → Shared → Prop} {news : List (Addr × Obj)}
set_option maxRecDepth 100000 in
set_option maxHeartbeats 8000000 in
theorem lcurve_c {q n : Int} {tq tn : Tok}
    (hf : env.frame = some L) (hke : env.scope.kind = .function) (hdp : dp ≤ 900) (hun : un ≤ 9000)
    (B : Below A₀ base outer h₀) (F : Fr h₀ L s.heap m) (X : (hd.heap_1 w.params).In h₀) (N : News h₀ L s.heap news) (T : Top p loose mean mg mb h₀)
    (hq : primeI q)
    (hret : ∀ (r : Int) (t : Tok) (h' : Heap) (tk' : Nat), Fr h₀ L h' m → News h₀ L h' news → 0 ≤ r → r < q → ¬ badI q r → Q (.int r t) { s with heap := h', toks := tk' }) :
    wpAny (model PR w) (ar dp un gd env outer) (call (.ref 569) [.int q tq, .int n tn]) Q E s := by
  have hq1 := hq.bd.1
  have hq2 := hq.bd.2
  k_with "exec While BoolOp cons nil" => k_while (fun _ b => 0 ≤ b ∧ b < q) (fun _ b => curveMeas q b) "b"
  k_with "measure" => first | exact curve_meas hq (by assumption) (by assumption) (Or.inl (by assumption)) | exact curve_meas hq (by assumption) (by assumption) (Or.inr (by assumption))
  k_with "state" => exact ⟨Int.fmod_nonneg_of_pos _ (by omega), Int.fmod_lt_of_pos _ (by omega)⟩
  refine wpAny_call ?_
  k_dflt k_enter
  k_steps
  all_goals (refine hret _ _ _ _ (by k_asm) (by k_asm) (by assumption) (by assumption) (fun hb => hb.elim (fun e => absurd e (by assumption)) (fun e => absurd e (by assumption))))
theorem lay17 : True := by
  k_with "m:call ref" => ((with_reducible show wpAny _ _ (call (Value.ref 569) [Value.int _ _, Value.int _ _] _) _ _ _); k_dflt (refine' lcurve_c ?qFq7 ?qKq7 ?qDq7 ?qUq7 ?q1q7 ?q2q7 ?q3q7 ?q4q7 ?q5q7 ?rqq7 ?_; (k_extra "std"); (case rqq7 => assumption); k_whole; intro r'q t'q h'q tk'q F'q N'q c1q c2q c3q; (try dsimp only); (try k_sweep)))
  trivial
end

-- piece cg
noncomputable def Cg (p a b : Int) : Prop := p ∣ a - b
theorem Cg.refl {p a : Int} : Cg p a a := by unfold Cg; rw [Int.sub_self]; exact Int.dvd_zero p
theorem Cg.of_eq {p a b : Int} (h : a = b) : Cg p a b := h ▸ .refl
theorem Cg.symm {p a b : Int} (h : Cg p a b) : Cg p b a := by unfold Cg at *; have := Int.dvd_neg.mpr h; rw [Int.neg_sub] at this; exact this
theorem Cg.trans {p a b c : Int} (h : Cg p a b) (k : Cg p b c) : Cg p a c := by unfold Cg at *; have := Int.dvd_add h k; rw [show a - b + (b - c) = a - c by omega] at this; exact this
theorem Cg.sub {p a b c d : Int} (h : Cg p a b) (k : Cg p c d) : Cg p (a - c) (b - d) := by unfold Cg at *; have := Int.dvd_sub h k; rw [show a - b - (c - d) = a - c - (b - d) by omega] at this; exact this
theorem Cg.mul {p a b c d : Int} (h : Cg p a b) (k : Cg p c d) : Cg p (a * c) (b * d) := by
  unfold Cg at *
  have h1 : p ∣ (a - b) * c := Int.dvd_mul_of_dvd_left h
  have h2 : p ∣ b * (c - d) := Int.dvd_mul_of_dvd_right k
  have := Int.dvd_add h1 h2
  rw [Int.sub_mul, Int.mul_sub, show a * c - b * c + (b * c - b * d) = a * c - b * d by omega] at this
  exact this
theorem Cg.mod {p a : Int} : Cg p (a % p) a := by
  unfold Cg
  have : a % p - a = p * (-(a / p)) := by rw [Int.mul_neg]; have := Int.emod_add_mul_ediv a p; omega
  rw [this]; exact Int.dvd_mul_right _ _
theorem Cg.iff {p a b : Int} : a % p = b % p ↔ Cg p a b := by
  unfold Cg
  exact ⟨fun h => Int.dvd_of_emod_eq_zero (Int.emod_eq_emod_iff_emod_sub_eq_zero.mp h), fun h => Int.emod_eq_emod_iff_emod_sub_eq_zero.mpr (Int.emod_eq_zero_of_dvd h)⟩
theorem dvd_coprime {p s d : Int} (hg : Int.gcd s p = 1) (h : p ∣ s * d) : p ∣ d := by
  have h1 := Int.natAbs_dvd_natAbs.mpr h
  rw [Int.natAbs_mul] at h1
  have h2 : Nat.Coprime p.natAbs s.natAbs := (Nat.coprime_comm).mp hg
  exact Int.natAbs_dvd_natAbs.mp (h2.dvd_of_dvd_mul_left h1)

-- piece euclid
theorem noPylong64 {x y : Int} (h : y.natAbs < 18446744073709551616) : Builtin.divisionGoesByPylong x y = false := by
  refine PyProof.noPylong_of_log2 ?_
  by_cases h0 : y.natAbs = 0
  · rw [h0]; decide +kernel
  · exact Nat.lt_of_lt_of_le ((Nat.log2_lt h0).mpr (show y.natAbs < 2 ^ 64 from h)) (by decide)
theorem gcd_step {a b : Int} (hb : 0 < b) : Int.gcd b (a.fmod b) = Int.gcd a b := by
  rw [Int.fmod_eq_emod_of_nonneg _ (Int.le_of_lt hb), Int.gcd_comm a b]
  have e : a % b = a + b * (-(a / b)) := by have := Int.emod_add_mul_ediv a b; rw [Int.mul_neg]; omega
  rw [e, Int.gcd_add_mul_left_right]
theorem div_state {x y a b : Int} (_hx : 0 ≤ x) (hg : Int.gcd x y = Int.gcd a b) (hlt : 0 < y) : 0 ≤ y ∧ 0 ≤ x.fmod y ∧ Int.gcd y (x.fmod y) = Int.gcd a b :=
  ⟨Int.le_of_lt hlt, Int.fmod_nonneg_of_pos _ hlt, (gcd_step hlt).trans hg⟩
theorem div_meas {x y : Int} (hlt : 0 < y) : (x.fmod y).toNat < y.toNat := by
  have := Int.fmod_lt_of_pos x hlt
  omega
theorem div_end {x y a b : Int} (hx : 0 ≤ x) (hy : 0 ≤ y) (hg : Int.gcd x y = Int.gcd a b) (hn : ¬ 0 < y) : x = Int.gcd a b := by
  have : y = 0 := by omega
  rw [← hg, this, Int.gcd_zero_right]; omega
section
variable {w : World} {p : Program} {loose : List Str} {mean : ExcName → Option Value} {mg mb : Str → Option Value} {dp un : Nat} {gd : Option (List Code)} {A₀ : Around} {env : Env} {outer : List Env} {base h₀ : Heap} {L : Addr} {m : Str → Option Value} {s : Shared} {Q E : Value → Shared → Prop} {news : List (Addr × Obj)}
set_option maxRecDepth 100000 in
set_option maxHeartbeats 8000000 in
theorem divisor_c {a b : Int} {ta tb : Tok}
    (hf : env.frame = some L) (hke : env.scope.kind = .function) (hdp : dp ≤ 900) (hun : un ≤ 9000)
    (B : Below A₀ base outer h₀) (F : Fr h₀ L s.heap m) (X : (hd.heap_1 w.params).In h₀) (N : News h₀ L s.heap news) (T : Top p loose mean mg mb h₀)
    (ha : 0 ≤ a) (hb : 0 ≤ b)
    (hret : ∀ (t : Tok) (h' : Heap) (tk' : Nat), Fr h₀ L h' m → News h₀ L h' news → Q (.int (Int.gcd a b) t) { s with heap := h', toks := tk' }) :
    wpAny (model PR w) (ar dp un gd env outer) (call (.ref 590) [.int a ta, .int b tb]) Q E s := by
  k_with "exec While Compare cons nil" => k_while (fun _ x y => 0 ≤ x ∧ 0 ≤ y ∧ Int.gcd x y = Int.gcd a b) (fun _ _ y => y.toNat) "one" "other"
  k_with "state" => first | exact ⟨ha, hb, rfl⟩ | exact div_state (by assumption) (by assumption) (by assumption)
  k_with "measure" => exact div_meas (by assumption)
  refine wpAny_call ?_
  k_dflt k_enter
  k_steps
  all_goals (refine ret_int ?_ (hret _ _ _ (by k_asm) (by k_asm)))
  exact div_end (by assumption) (by assumption) (by assumption) (by assumption)
theorem lay18 : True := by
  k_with "m:call ref" => ((with_reducible show wpAny _ _ (call (Value.ref 590) [Value.int _ _, Value.int _ _] _) _ _ _); k_dflt (refine' divisor_c ?qFq7 ?qKq7 ?qDq7 ?qUq7 ?q1q7 ?q2q7 ?q3q7 ?q4q7 ?q5q7 ?raq7 ?rbq7 ?_; (k_extra "std"); (case raq7 => (first | assumption | omega)); (case rbq7 => (first | assumption | omega)); k_whole; intro t'q h'q tk'q F'q N'q; (try dsimp only); (try k_sweep)))
  trivial
theorem mulok_fdiv {x h l : Int} (h0 : 0 ≤ h) (h1 : h ≤ 4000000000000000000) (hl : 1 < l) : IntMulOk x (h.fdiv l) := by
  rw [Int.fdiv_eq_ediv_of_nonneg _ (by omega)]
  have a1 : 0 ≤ h / l := Int.ediv_nonneg h0 (by omega)
  have a2 : h / l ≤ h := Int.ediv_le_self _ h0
  exact IntMulOk.of_right (intBits_le_64 (by omega) (by omega))
noncomputable def InvP (n a lm hm low high : Int) : Prop := low < high ∧ 1 < high ∧ high ≤ n ∧ Int.gcd low high = 1 ∧ (lm * a - low) % n = 0 ∧ (hm * a - high) % n = 0
theorem inv_start {n a : Int} (hn : 1 < n) (hg : Int.gcd a n = 1) : InvP n (a % n) 1 0 (a % n) n := by
  refine ⟨Int.emod_lt_of_pos _ (by omega), hn, Int.le_refl _, ?_, ?_, ?_⟩
  · have e : a % n = a + n * (-(a / n)) := by have := Int.emod_add_mul_ediv a n; rw [Int.mul_neg]; omega
    rw [e, Int.gcd_comm, Int.gcd_add_mul_left_right, Int.gcd_comm, hg]
  · rw [Int.one_mul, Int.sub_self, Int.zero_emod]
  · rw [Int.zero_mul, Int.zero_sub]; exact Int.emod_eq_zero_of_dvd ((Int.dvd_neg).mpr (Int.dvd_refl n))
theorem inv_step {n a lm hm low high : Int} (h : InvP n a lm hm low high) (hl : 1 < low) : InvP n a (hm - lm * high.fdiv low) lm (high - low * high.fdiv low) low := by
  obtain ⟨h1, h2, h3, h4, h5, h6⟩ := h
  rw [Int.fdiv_eq_ediv_of_nonneg _ (by omega)]
  have e : high - low * (high / low) = high % low := by have := Int.emod_add_mul_ediv high low; omega
  refine ⟨?_, hl, by omega, ?_, ?_, h5⟩
  · rw [e]; exact Int.emod_lt_of_pos _ (by omega)
  · have e2 : high - low * (high / low) = high + low * (-(high / low)) := by rw [Int.mul_neg]; omega
    rw [e2, Int.gcd_comm, Int.gcd_add_mul_left_right]; exact h4
  · have e3 : (hm - lm * (high / low)) * a - (high - low * (high / low)) = (hm * a - high) - (lm * a - low) * (high / low) := by
      rw [Int.sub_mul, Int.sub_mul, Int.mul_right_comm lm]; omega
    rw [e3]
    obtain ⟨c, hc⟩ := Int.dvd_of_emod_eq_zero h5
    obtain ⟨d, hd⟩ := Int.dvd_of_emod_eq_zero h6
    rw [hc, hd, Int.mul_assoc, ← Int.mul_sub, Int.mul_emod_right]
theorem inv_end {n a a0 lm hm low high : Int} (h : InvP n (a0 % n) lm hm low high) (hl0 : 0 ≤ low) (hl : ¬ 1 < low) (hn : 1 < n) (e : a = lm % n) : 0 ≤ a ∧ a < n ∧ (a0 * a) % n = 1 := by
  obtain ⟨h1, h2, h3, h4, h5, h6⟩ := h
  have hlow : low = 1 := by
    by_cases hz : low = 0
    · rw [hz, Int.gcd_zero_left] at h4; omega
    · omega
  subst e
  refine ⟨Int.emod_nonneg _ (by omega), Int.emod_lt_of_pos _ (by omega), ?_⟩
  rw [hlow] at h5
  have e1 : (lm * (a0 % n)) % n = 1 % n := Int.emod_eq_emod_iff_emod_sub_eq_zero.mpr h5
  rw [Int.emod_eq_of_lt (by omega) hn] at e1
  rw [Int.mul_emod, Int.emod_emod, ← Int.mul_emod, Int.mul_comm, Int.mul_emod, ← e1, Int.mul_emod lm (a0 % n), Int.emod_emod]
theorem inv_state0 {n a : Int} (hn : 1 < n) (hn2 : n ≤ 4000000000000000000) (h : a.fmod n ≠ 0) (hg : a % n = 0 ∨ Int.gcd a n = 1) : 0 ≤ (a.fmod n).fmod n ∧ (a.fmod n).fmod n ≤ n ∧ n ≤ 4000000000000000000 ∧ InvP n (a % n) 1 0 ((a.fmod n).fmod n) n := by
  rw [Int.fmod_eq_emod_of_nonneg _ (show 0 ≤ n by omega)] at h
  rw [Int.fmod_eq_emod_of_nonneg _ (show 0 ≤ n by omega), Int.fmod_eq_emod_of_nonneg _ (show 0 ≤ n by omega), Int.emod_emod]
  exact ⟨Int.emod_nonneg _ (by omega), Int.le_of_lt (Int.emod_lt_of_pos _ (by omega)), hn2, inv_start hn (hg.resolve_left h)⟩
theorem inv_state1 {n a lm hm low high : Int} (h1 : high ≤ 4000000000000000000) (h : InvP n a lm hm low high) (hl : 1 < low) :
    0 ≤ high - low * high.fdiv low ∧ high - low * high.fdiv low ≤ low ∧ low ≤ 4000000000000000000 ∧ InvP n a (hm - lm * high.fdiv low) lm (high - low * high.fdiv low) low := by
  have s := inv_step h hl
  have := h.1
  have e : high - low * high.fdiv low = high % low := by rw [Int.fdiv_eq_ediv_of_nonneg _ (by omega)]; have := Int.emod_add_mul_ediv high low; omega
  refine ⟨?_, ?_, by omega, s⟩
  · rw [e]; exact Int.emod_nonneg _ (by omega)
  · rw [e]; exact Int.le_of_lt (Int.emod_lt_of_pos _ (by omega))
theorem inv_meas {high low : Int} (hl : 1 < low) : (high - low * high.fdiv low).toNat < low.toNat := by
  rw [Int.fdiv_eq_ediv_of_nonneg _ (by omega)]
  have e : high - low * (high / low) = high % low := by have := Int.emod_add_mul_ediv high low; omega
  have h1 := Int.emod_lt_of_pos high (show 0 < low by omega)
  have h2 := Int.emod_nonneg high (show low ≠ 0 by omega)
  rw [e]; omega
theorem inv_ret {R : Prop} {n a lm hm low high : Int} (h : InvP n (a % n) lm hm low high) (hl0 : 0 ≤ low) (hl : ¬ 1 < low) (hn : 1 < n) (_h2 : n ≤ 4000000000000000000) (hz : a.fmod n ≠ 0)
    (k : 0 ≤ lm.fmod n → lm.fmod n < n → (a.fmod n = 0 → lm.fmod n = 0) → (a.fmod n ≠ 0 → (a * lm.fmod n).fmod n = 1) → R) : R := by
  have e := Int.fmod_eq_emod_of_nonneg lm (show 0 ≤ n by omega)
  obtain ⟨h1, h2, h3⟩ := inv_end h hl0 hl hn e
  exact k h1 h2 (fun h9 => absurd h9 hz) (fun _ => (Int.fmod_eq_emod_of_nonneg _ (show 0 ≤ n by omega)).trans h3)
theorem inv_g1 {a n : Int} (h : a.fmod n = 0) (hn : 0 < n) : a % n = 0 ∨ Int.gcd a n = 1 := .inl ((Int.fmod_eq_emod_of_nonneg a (Int.le_of_lt hn)).symm.trans h)
theorem inv_g2 {a n : Int} (h : ((Int.gcd (if a < 0 then -a else a) n : Nat) : Int) = 1) : a % n = 0 ∨ Int.gcd a n = 1 := by
  refine .inr ?_
  split at h
  · rw [Int.neg_gcd] at h; omega
  · omega
theorem lay19 : True := by
  k_with "m.mul_fits" => ((fail_if_success (fail_if_success (with_reducible rename InvP _ _ _ _ _ _ => x9q))); exact mulok_fdiv (by omega) (by assumption) (by assumption))
  k_with "m:binaryOp FloorDiv int int" => (k_here; (fail_if_success (fail_if_success (with_reducible rename InvP _ _ _ _ _ _ => x9q))); (refine floordiv_int (by first | decide | omega) ?_ (Or.inl (noPylong64 (by omega)))))
  trivial
set_option maxRecDepth 100000 in
set_option maxHeartbeats 8000000 in
theorem inv_c {a n : Int} {ta tb : Tok}
    (hf : env.frame = some L) (hke : env.scope.kind = .function) (hdp : dp ≤ 900) (hun : un ≤ 9000)
    (B : Below A₀ base outer h₀) (F : Fr h₀ L s.heap m) (X : (hd.heap_1 w.params).In h₀) (N : News h₀ L s.heap news) (T : Top p loose mean mg mb h₀)
    (hn : 1 < n) (hn2 : n ≤ 4000000000000000000) (hg : a % n = 0 ∨ Int.gcd a n = 1)
    (hret : ∀ (r : Int) (t : Tok) (h' : Heap) (tk' : Nat), Fr h₀ L h' m → News h₀ L h' news → 0 ≤ r → r < n → (a.fmod n = 0 → r = 0) → (a.fmod n ≠ 0 → (a * r).fmod n = 1) → Q (.int r t) { s with heap := h', toks := tk' }) :
    wpAny (model PR w) (ar dp un gd env outer) (call (.ref 99) [.int a ta, .int n tb]) Q E s := by
  k_with "exec While Compare cons nil" => k_while (fun _ lm hm low high => 0 ≤ low ∧ low ≤ high ∧ high ≤ 4000000000000000000 ∧ InvP n (a % n) lm hm low high) (fun _ _ _ low _ => low.toNat) "lm" "hm" "low" "high"
  k_with "state" => first | exact inv_state0 hn hn2 (by assumption) hg | exact inv_state1 (by assumption) (by assumption) (by assumption)
  k_with "measure" => exact inv_meas (by assumption)
  refine wpAny_call ?_
  k_dflt k_enter
  k_steps
  · refine hret _ _ _ _ (by k_asm) (by k_asm) (by decide) (by omega) (fun _ => rfl) (fun h9 => absurd (by assumption) h9)
  · refine inv_ret (by assumption) (by assumption) (by assumption) hn hn2 (by assumption) (hret _ _ _ _ (by k_asm) (cb_drop (by k_asm) (by repeat (first | exact (fun _ h9 => h9) | refine sub_tail ?_))))
theorem lay20 : True := by
  k_with "m:call ref" => ((with_reducible show wpAny _ _ (call (Value.ref 99) [Value.int _ _, Value.int _ _] _) _ _ _); k_dflt (refine' inv_c ?qFq7 ?qKq7 ?qDq7 ?qUq7 ?q1q7 ?q2q7 ?q3q7 ?q4q7 ?q5q7 ?rnq7 ?rn2q7 ?rgq7 ?_; (k_extra "std"); (case rnq7 => (first | assumption | omega)); (case rn2q7 => (first | assumption | omega)); (case rgq7 => (first | assumption | exact inv_g1 (by assumption) (by omega) | exact inv_g2 (by assumption))); k_whole; intro r'q t'q h'q tk'q F'q N'q i1q i2q i3q i4q; (try dsimp only); (try k_sweep)))
  trivial
end

-- piece st
@[reducible] noncomputable def upd (m : Str → Option Value) (x : Str) (v : Value) : Str → Option Value := fun y => if y = x then some v else m y
theorem storeM {M : Model} {A : Around} {h₀ : Heap} {L a : Addr} {cn : Str} {cs : Scope} {ccd : Value} {cl : List (Str × Addr)} {m : Str → Option Value} {x : Str} {v : Value} {news : List (Addr × Obj)} {Q : Unit → Shared → Prop} {E : Value → Shared → Prop} {s : Shared} (F : Fr h₀ L s.heap m) (N : News h₀ L s.heap news)
    (h : let m' := upd m x v; let n' := news; ∀ h', Fr h₀ L h' m' → News h₀ L h' n' → Q () { s with heap := h', toks := s.toks + 1 })
    (hk : cs.kind = .function) (hx : (envX cn cs L a ccd cl).kindOf x = some .local) : wpAny M A (storeName (envX cn cs L a ccd cl) x v) Q E s := storeX_L F N h hk hx
local macro_rules | `(tactic| k_lt $h:ident) => `(tactic| (replace $h := allLt_of $h; simp +zetaDelta only [AllLt, and_true] at $h:ident))
theorem lay21 : True := by
  k_with "m:storeName" => (k_here; k_dflt (refine' storeM ?Fq7 ?Nq7 ?_ ?aq7 ?bq7; (case Fq7 => k_asm); (case Nq7 => k_asm); (case aq7 => rfl); (case bq7 => rfl); k_whole; intro m'q n'q h'q F'q N'q; (try k_sweep)))
  trivial

-- piece osp
theorem byteArr_bInts (b : Array UInt8) : byteArr (KBw.bInts b) = b := by
  unfold byteArr KBw.bInts
  rw [List.map_map]
  have : (b.toList.map ((fun n : Int => n.toNat.toUInt8) ∘ fun c => (c.toNat : Int))) = b.toList := by
    rw [show ((fun n : Int => n.toNat.toUInt8) ∘ fun c : UInt8 => (c.toNat : Int)) = _root_.id from ?_, List.map_id]
    funext c
    simp
  rw [this]
theorem bytes_ext {b c : Array UInt8} (h : KBw.bInts b = KBw.bInts c) : b = c := by rw [← byteArr_bInts b, ← byteArr_bInts c, h]
theorem arr_of_ints {b : Array UInt8} {ks : List Int} (h : KBw.bInts b = ks) : b = byteArr ks := by rw [← h, byteArr_bInts]
section
variable {prog : Program} {w : World} {A : Around} {M : Model} {E : Value → Shared → Prop} {s : Shared}
open KTBy in
theorem tob_args (a b : Value) (n1 n2 : Value) : argsOk "int.to_bytes" ⟨[a, b], [(Str.ofString "byteorder", n1), (Str.ofString "signed", n2)]⟩ := by unfold argsOk; kernel_rfl
open KTBy in
theorem tob_kw {x B : Int} {k : Nat} {t u v : Tok} {Q : Value → Shared → Prop} (hk : k ≤ 8) (hB : (256 : Int) ^ k = B) (h0 : 0 ≤ x) (h1 : x < B) (h : ∀ t' k', Q (.bytes (byteArr (little k x).reverse) t') { s with toks := k' }) :
    wpAny (model prog w) A (call (.builtin "int.to_bytes") [.int x t, .int (k : Int) u] [(Str.ofString "byteorder", .str (PySem.Str.ofString "big") v), (Str.ofString "signed", .bool false)]) Q E s := by
  have hl : (little k x).reverse.length = k := by rw [List.length_reverse, little_length]
  refine wpAny_call_entry_kw slot (typeIs_int s x t) entry ?_ (tob_args _ _ _ _)
  have hb := bits_le hB h0 h1
  have h1' : x < 256 ^ k := by rw [hB]; exact h1
  show wpAny _ _ (Builtin.Int.intOfSelf (.int x t) >>= fun y => _) _ _ s
  refine wpAny_bind (wpAny_of_eq (a := x) rfl ?_)
  show wpAny _ _ (Builtin.Int.intBindNamed "to_bytes" ["length", "byteorder", "signed"] 0 2 [.int (k : Int) u] [(Str.ofString "byteorder", .str (PySem.Str.ofString "big") v), (Str.ofString "signed", .bool false)] >>= fun l => _) _ _ s
  refine wpAny_bind (wpAny_of_eq (a := [some (.int (k : Int) u), some (.str (PySem.Str.ofString "big") v), some (.bool false)]) (by kernel_rfl) ?_)
  show wpAny _ _ (Builtin.Int.intIndex "int.to_bytes" (.int (k : Int) u) >>= fun n => _) _ _ s
  refine wpAny_bind (wpAny_of_eq (a := (k : Int)) rfl ?_)
  refine if_not (by show (decide ((k : Int) < -(2 ^ 63 : Int)) || decide ((k : Int) ≥ 2 ^ 63)) = false; rw [decide_eq_false (show ¬ ((k : Int) < -(2 ^ 63 : Int)) by omega), decide_eq_false (show ¬ ((k : Int) ≥ 2 ^ 63) by omega)]; rfl) ?_
  refine wpAny_bind (wpAny_of_eq (a := PySem.Str.ofString "big") (by kernel_rfl) ?_)
  refine wpAny_bind (wpAny_of_eq (a := false) rfl ?_)
  refine wpAny_bind (wpAny_of_eq (a := false) (by kernel_rfl) ?_)
  refine wpAny_ite_false (decide_eq_false (show ¬ ((k : Int) < 0) by omega)) ?_
  refine wpAny_ite_false (decide_eq_false (show ¬ ((k : Int) > 2 ^ 63 - 1 - 33) by omega)) ?_
  refine wpAny_ite_false (decide_eq_false (show ¬ ((k : Int) > (sizeLine : Int)) by rw [sizeLine_eq]; omega)) ?_
  refine if_not (by show (decide (x < 0) && !false) = false; rw [decide_eq_false (show ¬ x < 0 by omega)]; rfl) ?_
  refine if_not (by show (_ && decide ((Builtin.Int.intBits x : Int) > 8 * (k : Int))) = false; rw [decide_eq_false (show ¬ ((Builtin.Int.intBits x : Int) > 8 * (k : Int)) by omega), Bool.and_false]) ?_
  refine wpAny_bind (wpAny_mkBytes (wpAny_pure ⟨_, rfl, ?_⟩) (by show (List.reverse (low x (Int.toNat (k : Int)))).length ≤ sizeLine; rw [List.length_reverse, low_length, Int.toNat_natCast, sizeLine_eq]; omega))
  have e : ((low x (Int.toNat (k : Int))).reverse).toArray = byteArr (little k x).reverse := by
    refine arr_of_ints ?_
    show (List.map (fun c : UInt8 => ((c.toNat : Nat) : Int)) (List.reverse (low x (Int.toNat (k : Int))))) = (little k x).reverse
    rw [Int.toNat_natCast, List.map_reverse, low_ints h0 h1', ← little_eq]
  have h' := h s.toks
  rw [← e] at h'
  exact h' _
theorem fb_grown {n : Nat} {Q : Value → Shared → Prop} (hn : n < 2 ^ 1000) (h : Q (.int (n : Int) s.toks) { s with toks := s.toks + 1 }) : wpAny M A (mkIntGrown (n : Int)) Q E s := by
  unfold mkIntGrown
  have hl : ¬ ((n : Int).natAbs.log2 ≥ bitsLine) := by
    rw [Int.natAbs_natCast]
    have hb : bitsLine = 134217728 := by first | rfl | decide
    by_cases hz : n = 0
    · subst hz
      rw [hb]
      decide
    · have h1 := (Nat.log2_lt hz).mpr hn
      omega
  rw [if_neg hl]
  exact wpAny_mkInt h
theorem fb_small {b : Array UInt8} (hl : b.size ≤ 100) : b.toList.foldl (fun (acc : Nat) (b : UInt8) => acc * 256 + b.toNat) 0 < 2 ^ 1000 := by
  have h1 := KFB.fold_lt b.toList 0
  rw [Nat.zero_add, Nat.one_mul, Array.length_toList] at h1
  have h2 : 256 ^ b.size ≤ 256 ^ 100 := Nat.pow_le_pow_right (by decide) hl
  have h3 : (256 : Nat) ^ 100 < 2 ^ 1000 := by decide +kernel
  exact Nat.lt_of_lt_of_le h1 (Nat.le_of_lt (Nat.lt_of_le_of_lt h2 h3))
open KFB in
theorem fb_tree {b : Array UInt8} {t u : Tok} {P : Fin → Shared → Prop} (hl : b.size ≤ 100) (h : P (.done (.ret (.int (value (KBw.bInts b)) s.toks))) { s with toks := s.toks + 1 }) :
    wpAny M A (Builtin.«int.from_bytes» ⟨[.type "int", .bytes b t, .str (PySem.Str.ofString "big") u], []⟩) P E s := by
  have hv : ((b.toList.foldl (fun (acc : Nat) (b : UInt8) => acc * 256 + b.toNat) 0 : Nat) : Int) = value (KBw.bInts b) := fold_cast b.toList 0
  unfold Builtin.«int.from_bytes»
  refine wpAny_bind (wpAny_of_eq (a := true) type_int ?_)
  refine if_not rfl ?_
  refine wpAny_bind (wpAny_of_eq (a := true) F.conv_sub_int ?_)
  refine if_not rfl ?_
  refine wpAny_bind (wpAny_of_eq (a := [some (.bytes b t), some (.str (PySem.Str.ofString "big") u), none]) (by kernel_rfl) ?_)
  refine wpAny_bind (wpAny_of_eq (a := PySem.Str.ofString "big") (by kernel_rfl) ?_)
  refine wpAny_bind (wpAny_of_eq (a := false) rfl ?_)
  refine wpAny_bind (wpAny_of_eq (a := false) (by kernel_rfl) ?_)
  refine wpAny_bind (wpAny_of_eq (a := b) rfl ?_)
  show wpAny _ _ (mkIntGrown (b.toList.foldl (fun (acc : Int) (b : UInt8) => acc * 256 + (b.toNat : Int)) ((0 : Nat) : Int)) >>= fun v => _) _ _ _
  rw [foldI_eq]
  refine wpAny_bind (fb_grown (fb_small hl) ?_)
  rw [hv]
  refine if_so (by decide +kernel) ?_
  exact wpAny_bind (wpAny_pure (wpAny_pure h))
open KFB in
theorem fb_tree_kw {b : Array UInt8} {t u : Tok} {P : Fin → Shared → Prop} (hl : b.size ≤ 100) (h : P (.done (.ret (.int (value (KBw.bInts b)) s.toks))) { s with toks := s.toks + 1 }) :
    wpAny M A (Builtin.«int.from_bytes» ⟨[.type "int", .bytes b t], [(Str.ofString "byteorder", .str (PySem.Str.ofString "big") u), (Str.ofString "signed", .bool false)]⟩) P E s := by
  have hv : ((b.toList.foldl (fun (acc : Nat) (b : UInt8) => acc * 256 + b.toNat) 0 : Nat) : Int) = value (KBw.bInts b) := fold_cast b.toList 0
  unfold Builtin.«int.from_bytes»
  refine wpAny_bind (wpAny_of_eq (a := true) type_int ?_)
  refine if_not rfl ?_
  refine wpAny_bind (wpAny_of_eq (a := true) F.conv_sub_int ?_)
  refine if_not rfl ?_
  refine wpAny_bind (wpAny_of_eq (a := [some (.bytes b t), some (.str (PySem.Str.ofString "big") u), some (.bool false)]) (by kernel_rfl) ?_)
  refine wpAny_bind (wpAny_of_eq (a := PySem.Str.ofString "big") (by kernel_rfl) ?_)
  refine wpAny_bind (wpAny_of_eq (a := false) rfl ?_)
  refine wpAny_bind (wpAny_of_eq (a := false) (by kernel_rfl) ?_)
  refine wpAny_bind (wpAny_of_eq (a := b) rfl ?_)
  show wpAny _ _ (mkIntGrown (b.toList.foldl (fun (acc : Int) (b : UInt8) => acc * 256 + (b.toNat : Int)) ((0 : Nat) : Int)) >>= fun v => _) _ _ _
  rw [foldI_eq]
  refine wpAny_bind (fb_grown (fb_small hl) ?_)
  rw [hv]
  refine if_so (by decide +kernel) ?_
  exact wpAny_bind (wpAny_pure (wpAny_pure h))
open KFB in
theorem fb_check_kw {b : Array UInt8} {t u : Tok} : checkBoundCall "int.from_bytes" ⟨[.type "int", .bytes b t], [(Str.ofString "byteorder", .str (PySem.Str.ofString "big") u), (Str.ofString "signed", .bool false)]⟩ = pure () := by first | kernel_rfl | rfl
open KFB in
theorem fb_call_kw {x : Addr} {b : Array UInt8} {t u : Tok} {Q : Value → Shared → Prop} (ho : StandsAt x s.heap) (hl : b.size ≤ 100)
    (h : ∀ t' k, Q (.int (value (KBw.bInts b)) t') { s with toks := k }) : wpAny (model prog w) A (call (.ref x) [.bytes b t] [(Str.ofString "byteorder", .str (PySem.Str.ofString "big") u), (Str.ofString "signed", .bool false)]) Q E s := by
  refine wpAny_call (codeAny_of_tree ?_)
  show wpAny _ A.in1 (callAny (.ref x) ⟨[.bytes b t], [(Str.ofString "byteorder", .str (PySem.Str.ofString "big") u), (Str.ofString "signed", .bool false)]⟩) _ _ s
  simp only [callAny]
  refine wpAny_bind (wpAny_load ho ?_)
  simp only [KFB.bound, show (Value.type "builtin_function_or_method" == Value.type "method" || Value.type "builtin_function_or_method" == Value.type "builtin_function_or_method" || Value.type "builtin_function_or_method" == Value.type "method-wrapper") = true by decide, if_true]
  refine if_so (by decide) ?_
  refine wpAny_bind (wpAny_of_eq (a := ()) fb_check_kw ?_)
  refine wpAny_bind (wpAny_pure (wpAny_pure ?_))
  exact ⟨quiet_fb, codeAny_builtin entry_fb (fb_tree_kw hl (h _ _))⟩
open KFB in
theorem fb_call {x : Addr} {b : Array UInt8} {t u : Tok} {Q : Value → Shared → Prop} (ho : StandsAt x s.heap) (hl : b.size ≤ 100)
    (h : ∀ t' k, Q (.int (value (KBw.bInts b)) t') { s with toks := k }) : wpAny (model prog w) A (call (.ref x) [.bytes b t, .str (PySem.Str.ofString "big") u]) Q E s :=
  call_of ho (fun z => fb_tree hl z) (h _ _)
theorem callWith_bkw {env : Env} {pos : Pos} {id : String} {first : List Value} {e : PySem.Expr} {rest : List PySem.Expr} {kws : List Keyword} {Q : Value → Shared → Prop}
    (h : wpAny M A (spliced (backTo pos (starEach (e :: rest) env))) (fun vs s₁ => wpAny M A (evalAll ((backToKw pos (keywordEach kws env)).map (·.2)))
      (fun kvs s₂ => wpAny M A (call (.builtin id) (first ++ vs) (((backToKw pos (keywordEach kws env)).filterMap (·.1)).zip kvs)) Q E s₂) E s₁) E s)
    (he : backTo pos (starEach (e :: rest) env) = (false, eval e env) :: backTo pos (starEach rest env) := by rfl)
    (hplain : (backTo pos (starEach (e :: rest) env)).any (·.1) = false := by rfl)
    (hall : (backToKw pos (keywordEach kws env)).all (·.1.isSome) = true := by rfl)
    (hkw : (backToKw pos (keywordEach kws env)).any (·.1.isNone) = false := by rfl) :
    wpAny M A (callWith pos (.builtin id) first (backTo pos (starEach (e :: rest) env)) (backToKw pos (keywordEach kws env))) Q E s := by
  refine callWith_builtin_kwB hplain hkw ?_
  rw [he] at h ⊢
  exact evalArgs_kwB hall h
open KFB in
theorem callWith_fkw {env : Env} {pos : Pos} {u : Addr} {first : List Value} {e : PySem.Expr} {rest : List PySem.Expr} {kws : List Keyword} {Q : Value → Shared → Prop}
    (h : wpAny M A (spliced (backTo pos (starEach (e :: rest) env))) (fun vs s₁ => wpAny M A (evalAll ((backToKw pos (keywordEach kws env)).map (·.2)))
      (fun kvs s₂ => StandsAt u s₂.heap ∧ wpAny M A (call (.ref u) (first ++ vs) (((backToKw pos (keywordEach kws env)).filterMap (·.1)).zip kvs)) Q E s₂) E s₁) E s)
    (he : backTo pos (starEach (e :: rest) env) = (false, eval e env) :: backTo pos (starEach rest env) := by rfl)
    (hplain : (backTo pos (starEach (e :: rest) env)).any (·.1) = false := by rfl)
    (hall : (backToKw pos (keywordEach kws env)).all (·.1.isSome) = true := by rfl)
    (hkw : (backToKw pos (keywordEach kws env)).any (·.1.isNone) = false := by rfl) :
    wpAny M A (callWith pos (.ref u) first (backTo pos (starEach (e :: rest) env)) (backToKw pos (keywordEach kws env))) Q E s := by
  have h' : wpAny M A (evalArgs (.ref u) true (backTo pos (starEach (e :: rest) env)) (backToKw pos (keywordEach kws env))) (fun x s₁ => StandsAt u s₁.heap ∧ wpAny M A (call (.ref u) (first ++ x.pos) x.kw) Q E s₁) E s := by
    rw [he] at h ⊢
    exact evalArgs_kwB hall h
  unfold callWith
  refine wpAny_bind (wpAny_holding (wpAny_mono h' (fun x s₁ h₁ => wpAny_bind (wpAny_standAt ?_)) fun _ _ x => x))
  obtain ⟨ho, hcall⟩ := h₁
  simp only [hplain, hkw, Bool.or_false]
  refine wpAny_bind (m := keeperOf (.ref u)) ?_
  unfold keeperOf
  refine wpAny_bind (wpAny_load ho ?_)
  simp only [KFB.bound, show (Value.type "builtin_function_or_method" != Value.type "method") = true by decide, show (Value.type "builtin_function_or_method" == Value.type "builtin_function_or_method" || Value.type "builtin_function_or_method" == Value.type "method-wrapper") = true by decide, if_true]
  refine wpAny_pure ?_
  exact wpAny_bind (wpAny_mono hcall (fun r s₂ hr => wpAny_bind (wpAny_holding (wpAny_point (wpAny_pure hr)))) fun _ _ x => x)
end
theorem little1 {x : Int} (h0 : 0 ≤ x) (h1 : x < 256) : byteArr (KTBy.little 1 x).reverse = byteArr [x] := by
  rw [KTBy.little_eq]
  show byteArr [x / 1 % 256] = _
  rw [Int.ediv_one, Int.emod_eq_of_lt h0 h1]
theorem little2 {x : Int} (h0 : 0 ≤ x) (h1 : x < 65536) : byteArr (KTBy.little 2 x).reverse = byteArr [x / 256, x % 256] := by
  rw [KTBy.little_eq]
  show byteArr [x / (256 ^ 1) % 256, x / 1 % 256] = _
  rw [Int.ediv_one, show (256 : Int) ^ 1 = 256 from rfl, Int.emod_eq_of_lt (a := x / 256) (by omega) (by omega)]
theorem lay22 : True := by
  k_with "m:callWith builtin:int.to_bytes" => ((with_reducible show wpAny _ _ (callWith _ _ _ _ (backToKw _ (keywordEach (_ :: _) _))) _ _ _); (k_dflt (refine' callWith_bkw ?_)); (try dsimp only))
  k_with "m:callWith ref" => ((with_reducible show wpAny _ _ (callWith _ _ _ _ (backToKw _ (keywordEach (_ :: _) _))) _ _ _); kfb_any; (k_dflt (refine' callWith_fkw ?_)); (try dsimp only))
  k_with "m:call builtin:int.to_bytes" => (k_dflt (first | (refine' tob_kw (k := 1) (B := 256) (by decide) (by decide) ?a0q7 ?a1q7 ?_; (case a0q7 => first | assumption | omega); (case a1q7 => first | assumption | omega)) | (refine' tob_kw (k := 2) (B := 65536) (by decide) (by decide) ?a0q7 ?a1q7 ?_; (case a0q7 => first | assumption | omega); (case a1q7 => first | assumption | omega))); intro t'q k'q)
  k_with "m:call ref" => ((with_reducible show wpAny _ _ (call (Value.ref _) [Value.bytes _ _] _) _ _ _); kfb_any; (k_dflt (refine' fb_call_kw ?a0q7 ?a1q7 ?_; (case a0q7 => exact KFB.at_of (by k_asm) (by k_mem)); (case a1q7 => first | assumption | omega))); intro t'q k'q)
  k_with "m:call ref" => ((with_reducible show wpAny _ _ (call (Value.ref _) [Value.bytes _ _, Value.str _ _]) _ _ _); kfb_any; (k_dflt (refine' fb_call ?a0q7 ?a1q7 ?_; (case a0q7 => exact KFB.at_of (by k_asm) (by k_mem)); (case a1q7 => first | assumption | omega))); intro t'q k'q)
  trivial
section
variable {w : World} {p : Program} {loose : List Str} {mean : ExcName → Option Value} {mg mb : Str → Option Value} {dp un : Nat} {gd : Option (List Code)} {A₀ : Around} {env : Env} {outer : List Env} {base h₀ : Heap} {L : Addr} {m : Str → Option Value} {s : Shared} {Q E : Value → Shared → Prop} {news : List (Addr × Obj)}
set_option maxRecDepth 100000 in
set_option maxHeartbeats 8000000 in
theorem i2osp1_c {x : Int} {tx tk : Tok}
    (hf : env.frame = some L) (hke : env.scope.kind = .function) (hdp : dp ≤ 900) (hun : un ≤ 9000)
    (B : Below A₀ base outer h₀) (F : Fr h₀ L s.heap m) (X : (hd.heap_1 w.params).In h₀) (N : News h₀ L s.heap news) (T : Top p loose mean mg mb h₀)
    (hx0 : 0 ≤ x) (hx1 : x < 256)
    (hret : ∀ (t : Tok) (h' : Heap) (tk' : Nat), Fr h₀ L h' m → News h₀ L h' news → Q (.bytes (byteArr [x]) t) { s with heap := h', toks := tk' }) :
    wpAny (model PR w) (ar dp un gd env outer) (call (.ref 50) [.int x tx, .int 1 tk]) Q E s := by
  refine wpAny_call ?_
  k_dflt k_enter
  k_steps
  rw [little1 hx0 hx1]
  exact hret _ _ _ (by k_asm) (by k_asm)
set_option maxRecDepth 100000 in
set_option maxHeartbeats 8000000 in
theorem i2osp2_c {x : Int} {tx tk : Tok}
    (hf : env.frame = some L) (hke : env.scope.kind = .function) (hdp : dp ≤ 900) (hun : un ≤ 9000)
    (B : Below A₀ base outer h₀) (F : Fr h₀ L s.heap m) (X : (hd.heap_1 w.params).In h₀) (N : News h₀ L s.heap news) (T : Top p loose mean mg mb h₀)
    (hx0 : 0 ≤ x) (hx1 : x < 65536)
    (hret : ∀ (t : Tok) (h' : Heap) (tk' : Nat), Fr h₀ L h' m → News h₀ L h' news → Q (.bytes (byteArr [x / 256, x % 256]) t) { s with heap := h', toks := tk' }) :
    wpAny (model PR w) (ar dp un gd env outer) (call (.ref 50) [.int x tx, .int 2 tk]) Q E s := by
  refine wpAny_call ?_
  k_dflt k_enter
  k_steps
  rw [little2 hx0 hx1]
  exact hret _ _ _ (by k_asm) (by k_asm)
set_option maxRecDepth 100000 in
set_option maxHeartbeats 8000000 in
theorem os2ip_c {b : Array UInt8} {tb : Tok}
    (hf : env.frame = some L) (hke : env.scope.kind = .function) (hdp : dp ≤ 900) (hun : un ≤ 9000)
    (B : Below A₀ base outer h₀) (F : Fr h₀ L s.heap m) (X : (hd.heap_1 w.params).In h₀) (N : News h₀ L s.heap news) (T : Top p loose mean mg mb h₀)
    (hb : b.size ≤ 100)
    (hret : ∀ (t : Tok) (h' : Heap) (tk' : Nat), Fr h₀ L h' m → News h₀ L h' news → Q (.int (KFB.value (KBw.bInts b)) t) { s with heap := h', toks := tk' }) :
    wpAny (model PR w) (ar dp un gd env outer) (call (.ref 57) [.bytes b tb]) Q E s := by
  refine wpAny_call ?_
  k_dflt k_enter
  k_steps
  exact hret _ _ _ (by k_asm) (cb_drop (by k_asm) (by repeat (first | exact (fun _ h9 => h9) | refine sub_tail ?_)))
end
theorem lay23 : True := by
  k_with "m:call ref" => ((with_reducible show wpAny _ _ (call (Value.ref 50) [Value.int _ _, Value.int 1 _] _) _ _ _); k_dflt (refine' i2osp1_c ?qFq7 ?qKq7 ?qDq7 ?qUq7 ?q1q7 ?q2q7 ?q3q7 ?q4q7 ?q5q7 ?r0q7 ?r1q7 ?_; (k_extra "std"); (case r0q7 => (first | assumption | omega)); (case r1q7 => (first | assumption | omega)); k_whole; intro t'q h'q tk'q F'q N'q; (try dsimp only); (try k_sweep)))
  k_with "m:call ref" => ((with_reducible show wpAny _ _ (call (Value.ref 50) [Value.int _ _, Value.int 2 _] _) _ _ _); k_dflt (refine' i2osp2_c ?qFq7 ?qKq7 ?qDq7 ?qUq7 ?q1q7 ?q2q7 ?q3q7 ?q4q7 ?q5q7 ?r0q7 ?r1q7 ?_; (k_extra "std"); (case r0q7 => (first | assumption | omega)); (case r1q7 => (first | assumption | omega)); k_whole; intro t'q h'q tk'q F'q N'q; (try dsimp only); (try k_sweep)))
  k_with "m:call ref" => ((with_reducible show wpAny _ _ (call (Value.ref 57) [Value.bytes _ _] _) _ _ _); k_dflt (refine' os2ip_c ?qFq7 ?qKq7 ?qDq7 ?qUq7 ?q1q7 ?q2q7 ?q3q7 ?q4q7 ?q5q7 ?r0q7 ?_; (k_extra "std"); (case r0q7 => (first | assumption | omega)); k_whole; intro t'q h'q tk'q F'q N'q; (try dsimp only); (try k_sweep)))
  trivial

-- piece ptinf
section
variable {M : Model} {A : Around} {Q : Value → Shared → Prop} {E : Value → Shared → Prop} {s : Shared}
theorem eq0_false {z X k : Int} (hz : z = X + k * 4925250774549309901534880012517951725634967408808180833493536675530715221437151326426783281860614455100828498788352) (h0 : 1 ≤ X) (h1 : X < 4925250774549309901534880012517951725634967408808180833493536675530715221437151326426783281860614455100828498788352) : (z.fmod 4925250774549309901534880012517951725634967408808180833493536675530715221437151326426783281860614455100828498788352 == 0) = false := by
  rw [Int.fmod_eq_emod_of_nonneg _ (by decide), beq_eq_false_iff_ne]; omega
end
section
variable {prog : Program} {w : World} {A A₀ : Around} {E : Value → Shared → Prop} {s : Shared} {K : Frag} {C L : Addr} {h₀ base : Heap} {m mg mb : Str → Option Value} {news : List (Addr × Obj)} {p : Program} {loose : List Str} {mean : ExcName → Option Value} {Q : Value → Shared → Prop}
theorem code_defN {env : Env} {outer : List Env} {R : Result → Shared → Prop} {name qual : Str} {params : Arguments} {body : List Stmt} {scope : Scope} {dV kV doc pm cdv ct oc : Value} {an od : Option Addr} {osl : Array (Option Value)} {f : Addr} {args : Args} {binds : List (Str × Value)}
    (B : Below A₀ base outer h₀) (F : Fr h₀ L s.heap m) (X₀ : K.In h₀) (N : News h₀ L s.heap news) (T : Top p loose mean mg mb h₀) (hA : A.frames = some (env :: outer)) (hf : env.frame = some L) (hke : env.scope.kind = .function)
    (ho : K.lookup f = some ⟨oc, od, .func (fnOf name qual params body scope dV kV doc pm an cdv ct), osl⟩) (hcd : codeIn K cdv qual = true) (hroom : A.depth < recursionLimit)
    (hbind : BindsTo s (fnOf name qual params body scope dV kV doc pm an cdv ct) args binds) (hd : distinct (binds.map (·.1)) = true) (hloc : ∀ y ∈ binds, scope.names.lookup y.1 = some .local)
    (h : ∀ g L' h₁, Fr h₀ L g m → Fr g L' h₁ (bindMap binds) → News g L' h₁ news → Below A base (env :: outer) g → K.In g → Top p loose mean mg mb g →
      wpAny (model prog w) (A.deeper (envOf qual scope L' f cdv)) (execs body (envOf qual scope L' f cdv))
        (fun fl s' => LeaveK h₀ L m g R (match fl with | .ret v => v | _ => .none) s')
        (fun e s' => wpAny (model prog w) (A.deeper (envOf qual scope L' f cdv)) (leaving (envOf qual scope L' f cdv) e) (fun _ s'' => R (.error e) s'') (fun e' s'' => R (.error e') s'') s')
        { s with heap := h₁, toks := s.toks + binds.length })
    (hco : scope.isCoroutine = false) (hgen : scope.isGenerator = false) (hk : scope.kind = .function)
    (hcell : ∀ x ∈ scope.names, x.2 ≠ .cell) : codeAny (model prog w) A (.call (.ref f) args) R s :=
  have e : (fun y => binds.reverse.lookup y) = bindMap binds := funext (bindMap_eq binds (distinct_nodup _ hd))
  code_def B F X₀ N T hA hf hke ho hcd hroom hbind hloc (fun g L' h₁ FG F' => h g L' h₁ FG (e ▸ F')) hco hgen hk hcell
end
section
variable {w : World} {p : Program} {loose : List Str} {mean : ExcName → Option Value} {mg mb : Str → Option Value} {dp un : Nat} {gd : Option (List Code)} {A₀ : Around} {env : Env} {outer : List Env} {base h₀ : Heap} {L : Addr} {m : Str → Option Value} {s : Shared} {Q E : Value → Shared → Prop} {news : List (Addr × Obj)}
set_option maxRecDepth 100000 in
set_option maxHeartbeats 8000000 in
theorem ptinf_c {z xx k : Int} {tz : Tok}
    (hf : env.frame = some L) (hke : env.scope.kind = .function) (hdp : dp ≤ 900) (hun : un ≤ 9000)
    (B : Below A₀ base outer h₀) (F : Fr h₀ L s.heap m) (X : (hd.heap_1 w.params).In h₀) (N : News h₀ L s.heap news) (T : Top p loose mean mg mb h₀)
    (hz : z = xx + k * 4925250774549309901534880012517951725634967408808180833493536675530715221437151326426783281860614455100828498788352) (h0 : 1 ≤ xx) (h1 : xx < 4925250774549309901534880012517951725634967408808180833493536675530715221437151326426783281860614455100828498788352) (hk : k = 4 ∨ k = 5)
    (hret : ∀ (h' : Heap) (tk' : Nat), Fr h₀ L h' m → News h₀ L h' news → Q (.bool false) { s with heap := h', toks := tk' }) :
    wpAny (model PR w) (ar dp un gd env outer) (call (.ref 36) [.int z tz]) Q E s := by
  refine wpAny_call ?_
  k_dflt (refine' code_defN (binds := [(Str.ofString "z1", Value.int z tz), (Str.ofString "z2", Value.none)]) ?k1 ?k2 ?k3 ?k4 ?k5 ?kA ?kF ?kK ?k6 ?k7 ?k8 ?k9 ?kD ?kB ?_ ?c2 ?c3 ?c4 ?c5; (case kA => exact rfl); (case kF => first | assumption | exact rfl); (case kK => first | assumption | exact rfl); (case k1 => k_asm); (case k2 => k_asm); (case k3 => k_asm); (case k4 => k_asm); (case k5 => k_asm); (case k6 => k_is); (case k7 => k_is); (case k8 => k_room); (case k9 => exact binds_K (by k_in) rfl (by k_is) rfl rfl rfl); (case kD => kernel_rfl); (case c5 => decide); (case kB => exact locs rfl); (case c2 => exact rfl); (case c3 => exact rfl); (case c4 => exact rfl); k_whole; intro g' L' h' FG' F' N' B' X' T'; (try dsimp only [bindMap, List.length_cons, List.length_nil] at F' ⊢); (try k_lift B'); (first | refine let q' : Flow → Shared → Prop := _; let e' : Value → Shared → Prop := _; let o' : Around := _; let v' : Env := _; let a' : Around := Around.deeper o' v'; let s' : Shared := _; (?_ : wpAny _ a' (execs _ v') q' e' s') | skip))
  k_steps
  all_goals first
    | exact ret_bool (eq0_false hz h0 h1) (hret _ _ (by k_asm) (by k_asm))
    | (exfalso; have h9 := eq0_false hz h0 h1; rw [beq_eq_false_iff_ne] at h9; exact h9 (by assumption))
theorem lay24 : True := by
  k_with "m:call ref" => ((with_reducible show wpAny _ _ (call (Value.ref 36) [Value.int _ _] _) _ _ _); k_dflt (refine' ptinf_c ?qFq7 ?qKq7 ?qDq7 ?qUq7 ?q1q7 ?q2q7 ?q3q7 ?q4q7 ?q5q7 ?rzq7 ?r0q7 ?r1q7 ?rkq7 ?_; (k_extra "std"); (case rzq7 => assumption); (case r0q7 => (first | assumption | omega)); (case r1q7 => (first | assumption | omega)); (case rkq7 => assumption); k_whole; intro h'q tk'q F'q N'q; (try dsimp only); (try k_sweep)))
  trivial
end

-- piece fq530
noncomputable abbrev fqD (P : Params) (q n : Int) (t1 t2 t3 t4 : Tok) : Obj := dictOf [⟨PyData.keyHash P (Str.ofString "field_modulus"), .str (Str.ofString "field_modulus") t1, .int q t2⟩, ⟨PyData.keyHash P (Str.ofString "n"), .str (Str.ofString "n") t3, .int n t4⟩] 2
theorem fq_eq {P : Params} {h₀ h : Heap} {L x C dx : Addr} {q n n' : Int} {t1 t2 t3 t4 : Tok} {news : List (Addr × Obj)} (e : n' = n) (N : News h₀ L h ((x, instObj C dx) :: (dx, fqD P q n' t1 t2 t3 t4) :: news)) : News h₀ L h ((x, instObj C dx) :: (dx, fqD P q n t1 t2 t3 t4) :: news) := e ▸ N
theorem fmod_emod {a q : Int} (hq : 0 < q) : (a.fmod q) % q = a % q := by rw [Int.fmod_eq_emod_of_nonneg _ (Int.le_of_lt hq), Int.emod_emod]
theorem pow3_eq {a q : Int} : (a * a % q % q * a) % q = a * a * a % q := by rw [Int.emod_emod, Int.mul_emod (a * a % q) a, Int.emod_emod, ← Int.mul_emod]
theorem fq_drop {P : Params} {h₀ h : Heap} {L x C dx : Addr} {q n n' : Int} {t1 t2 t3 t4 : Tok} {news l : List (Addr × Obj)} (N : News h₀ L h l) (h1 : (x, instObj C dx) ∈ l) (h2 : (dx, fqD P q n' t1 t2 t3 t4) ∈ l) (hs : ∀ p ∈ news, p ∈ l) (e : n' = n) :
    News h₀ L h ((x, instObj C dx) :: (dx, fqD P q n t1 t2 t3 t4) :: news) := e ▸ cb_drop N (sub_cons h1 (sub_cons h2 hs))
section
variable {w : World} {p : Program} {loose : List Str} {mean : ExcName → Option Value} {mg mb : Str → Option Value} {dp un : Nat} {gd : Option (List Code)} {A₀ : Around} {env : Env} {outer : List Env} {base h₀ : Heap} {L : Addr} {m : Str → Option Value} {s : Shared} {Q E : Value → Shared → Prop} {news : List (Addr × Obj)}
set_option maxRecDepth 100000 in
set_option maxHeartbeats 8000000 in
theorem fq530_new {v q : Int} {tv tq : Tok}
    (hf : env.frame = some L) (hke : env.scope.kind = .function) (hdp : dp ≤ 900) (hun : un ≤ 9000)
    (B : Below A₀ base outer h₀) (F : Fr h₀ L s.heap m) (X : (hd.heap_1 w.params).In h₀) (N : News h₀ L s.heap news) (T : Top p loose mean mg mb h₀)
    (hq : 0 < q)
    (hret : ∀ (x' dx' : Addr) (t1 t2 t3 t4 : Tok) (h' : Heap) (tk' : Nat), Fr h₀ L h' m → News h₀ L h' ((x', instObj 530 dx') :: (dx', fqD w.params q (v % q) t1 t2 t3 t4) :: news) → (∀ p ∈ news, p.1 < dx') → dx' < x' → 0 ≤ (v % q) → (v % q) < q → Q (.ref x') { s with heap := h', toks := tk' }) :
    wpAny (model PR w) (ar dp un gd env outer) (call (.ref 530) [.int v tv, .int q tq]) Q E s := by
  k_steps
  all_goals (refine hret _ _ _ _ _ _ _ _ (by k_asm) (fq_eq (Int.fmod_eq_emod_of_nonneg _ (Int.le_of_lt hq)) (by k_asm)) (by first | assumption | exact ktn_ltOf (by assumption)) (by assumption) (Int.emod_nonneg _ (Int.ne_of_gt hq)) (Int.emod_lt_of_pos _ hq))
theorem lay25 : True := by
  k_with "m:call ref" => ((with_reducible show wpAny _ _ (call (Value.ref 530) [Value.int _ _, Value.int _ _] _) _ _ _); k_dflt (refine' fq530_new ?qFq7 ?qKq7 ?qDq7 ?qUq7 ?q1q7 ?q2q7 ?q3q7 ?q4q7 ?q5q7 ?rqq7 ?_; (k_extra "std"); (case rqq7 => (first | assumption | omega | decide)); k_whole; intro x'q dx'q t1'q t2'q t3'q t4'q h'q tk'q F'q N'q l1q l2q b1q b2q; (try dsimp only); (try k_sweep); (try k_lt l1q); (try k_lt2 l2q)))
  trivial
set_option maxRecDepth 100000 in
set_option maxHeartbeats 8000000 in
theorem fq530_made {x dx : Addr} {q n : Int} {a1 a2 a3 a4 : Tok} {v : Int} {tv : Tok}
    (hf : env.frame = some L) (hke : env.scope.kind = .function) (hdp : dp ≤ 880) (hun : un ≤ 8900)
    (B : Below A₀ base outer h₀) (F : Fr h₀ L s.heap m) (X : (hd.heap_1 w.params).In h₀) (N : News h₀ L s.heap news) (T : Top p loose mean mg mb h₀)
    (hx : (x, instObj 530 dx) ∈ news) (hdx : (dx, fqD w.params q n a1 a2 a3 a4) ∈ news) (hq : 0 < q)
    (hret : ∀ (x' dx' : Addr) (t1 t2 t3 t4 : Tok) (h' : Heap) (tk' : Nat), Fr h₀ L h' m → News h₀ L h' ((x', instObj 530 dx') :: (dx', fqD w.params q (v % q) t1 t2 t3 t4) :: news) → (∀ p ∈ news, p.1 < dx') → dx' < x' → 0 ≤ (v % q) → (v % q) < q → Q (.ref x') { s with heap := h', toks := tk' }) :
    wpAny (model PR w) (ar dp un gd env outer) (call (.ref 513) [.ref x, .int v tv]) Q E s := by
  refine wpAny_call ?_
  k_dflt k_enter
  k_steps
  all_goals (refine hret _ _ _ _ _ _ _ _ (by k_asm) (by k_asm) (by first | assumption | exact ktn_ltOf (by assumption)) (by assumption) (Int.emod_nonneg _ (Int.ne_of_gt hq)) (Int.emod_lt_of_pos _ hq))
theorem lay26 : True := by
  k_with "m:call ref" => ((with_reducible show wpAny _ _ (call (Value.ref 513) [Value.ref _, Value.int _ _] _) _ _ _); k_dflt (refine' fq530_made ?qFq7 ?qKq7 ?qDq7 ?qUq7 ?q1q7 ?q2q7 ?q3q7 ?q4q7 ?q5q7 ?rxq7 ?rdxq7 ?rqq7 ?_; (k_extra "std"); (case rxq7 => k_mem); (case rdxq7 => k_mem); (case rqq7 => (first | assumption | omega)); k_whole; intro x'q dx'q t1'q t2'q t3'q t4'q h'q tk'q F'q N'q l1q l2q b1q b2q; (try dsimp only); (try k_sweep); clear l1q l2q))
  k_with "m:call ref" => ((with_reducible show wpAny _ _ (call (Value.ref 530) [Value.int _ _, Value.int _ _] _) _ _ _); k_dflt (refine' fq530_new ?qFq7 ?qKq7 ?qDq7 ?qUq7 ?q1q7 ?q2q7 ?q3q7 ?q4q7 ?q5q7 ?rqq7 ?_; (k_extra "std"); (case rqq7 => (first | assumption | omega | decide)); k_whole; intro x'q dx'q t1'q t2'q t3'q t4'q h'q tk'q F'q N'q l1q l2q b1q b2q; (try dsimp only); (try k_sweep); clear l1q l2q))
  k_with "m:call ref" => ((with_reducible show wpAny _ _ (call (Value.ref 527) [Value.ref _] _) _ _ _); k_dflt (refine' fq530_zero ?qFq7 ?qKq7 ?qDq7 ?qUq7 ?q1q7 ?q2q7 ?q3q7 ?q4q7 ?q5q7 ?rxq7 ?rdxq7 ?rqq7 ?_; (k_extra "std"); (case rxq7 => k_mem); (case rdxq7 => k_mem); (case rqq7 => (first | assumption | omega)); k_whole; intro x'q dx'q t1'q t2'q t3'q t4'q h'q tk'q F'q N'q; (try dsimp only); (try k_sweep)))
  trivial
set_option maxRecDepth 100000 in
set_option maxHeartbeats 8000000 in
theorem fq530_mul {x dx : Addr} {q n : Int} {a1 a2 a3 a4 : Tok} {y dy : Addr} {qy k : Int} {b1 b2 b3 b4 : Tok}
    (hf : env.frame = some L) (hke : env.scope.kind = .function) (hdp : dp ≤ 860) (hun : un ≤ 8800)
    (B : Below A₀ base outer h₀) (F : Fr h₀ L s.heap m) (X : (hd.heap_1 w.params).In h₀) (N : News h₀ L s.heap news) (T : Top p loose mean mg mb h₀)
    (hx : (x, instObj 530 dx) ∈ news) (hdx : (dx, fqD w.params q n a1 a2 a3 a4) ∈ news) (hy : (y, instObj 530 dy) ∈ news) (hdy : (dy, fqD w.params qy k b1 b2 b3 b4) ∈ news) (hq : 0 < q) (hn0 : 0 ≤ n) (hn1 : n < q) (hq2 : q ≤ 4000000000000000000) 
    (hret : ∀ (x' dx' : Addr) (t1 t2 t3 t4 : Tok) (h' : Heap) (tk' : Nat), Fr h₀ L h' m → News h₀ L h' ((x', instObj 530 dx') :: (dx', fqD w.params q ((n * k) % q) t1 t2 t3 t4) :: news) → 0 ≤ ((n * k) % q) → ((n * k) % q) < q → Q (.ref x') { s with heap := h', toks := tk' }) :
    wpAny (model PR w) (ar dp un gd env outer) (call (.ref 400) [.ref x, .ref y]) Q E s := by
  refine wpAny_call ?_
  k_dflt k_enter
  k_steps
  all_goals (refine hret _ _ _ _ _ _ _ _ (by k_asm) (fq_eq (fmod_emod hq) (by k_asm)) (Int.emod_nonneg _ (Int.ne_of_gt hq)) (Int.emod_lt_of_pos _ hq))
theorem lay27 : True := by
  k_with "m:call ref" => ((with_reducible show wpAny _ _ (call (Value.ref 400) [Value.ref _, Value.ref _] _) _ _ _); k_dflt (refine' fq530_mul ?qFq7 ?qKq7 ?qDq7 ?qUq7 ?q1q7 ?q2q7 ?q3q7 ?q4q7 ?q5q7 ?rxq7 ?rdxq7 ?ryq7 ?rdyq7 ?rqq7 ?rn0q7 ?rn1q7 ?rq2q7 ?_; (k_extra "std"); (case rxq7 => k_mem); (case rdxq7 => k_mem); (case ryq7 => k_mem); (case rdyq7 => k_mem); (case rqq7 => (first | assumption | omega)); (case rn0q7 => (first | assumption | omega)); (case rn1q7 => (first | assumption | omega)); (case rq2q7 => (first | assumption | omega)); k_whole; intro x'q dx'q t1'q t2'q t3'q t4'q h'q tk'q F'q N'q b1q b2q; (try dsimp only); (try k_sweep)))
  trivial
set_option maxRecDepth 100000 in
set_option maxHeartbeats 8000000 in
theorem fq530_sub {x dx : Addr} {q n : Int} {a1 a2 a3 a4 : Tok} {y dy : Addr} {qy k : Int} {b1 b2 b3 b4 : Tok}
    (hf : env.frame = some L) (hke : env.scope.kind = .function) (hdp : dp ≤ 860) (hun : un ≤ 8800)
    (B : Below A₀ base outer h₀) (F : Fr h₀ L s.heap m) (X : (hd.heap_1 w.params).In h₀) (N : News h₀ L s.heap news) (T : Top p loose mean mg mb h₀)
    (hx : (x, instObj 530 dx) ∈ news) (hdx : (dx, fqD w.params q n a1 a2 a3 a4) ∈ news) (hy : (y, instObj 530 dy) ∈ news) (hdy : (dy, fqD w.params qy k b1 b2 b3 b4) ∈ news) (hq : 0 < q) (hn0 : 0 ≤ n) (hn1 : n < q) (hq2 : q ≤ 4000000000000000000) 
    (hret : ∀ (x' dx' : Addr) (t1 t2 t3 t4 : Tok) (h' : Heap) (tk' : Nat), Fr h₀ L h' m → News h₀ L h' ((x', instObj 530 dx') :: (dx', fqD w.params q ((n - k) % q) t1 t2 t3 t4) :: news) → 0 ≤ ((n - k) % q) → ((n - k) % q) < q → Q (.ref x') { s with heap := h', toks := tk' }) :
    wpAny (model PR w) (ar dp un gd env outer) (call (.ref 428) [.ref x, .ref y]) Q E s := by
  refine wpAny_call ?_
  k_dflt k_enter
  k_steps
  all_goals (refine hret _ _ _ _ _ _ _ _ (by k_asm) (fq_eq (fmod_emod hq) (by k_asm)) (Int.emod_nonneg _ (Int.ne_of_gt hq)) (Int.emod_lt_of_pos _ hq))
theorem lay28 : True := by
  k_with "m:call ref" => ((with_reducible show wpAny _ _ (call (Value.ref 428) [Value.ref _, Value.ref _] _) _ _ _); k_dflt (refine' fq530_sub ?qFq7 ?qKq7 ?qDq7 ?qUq7 ?q1q7 ?q2q7 ?q3q7 ?q4q7 ?q5q7 ?rxq7 ?rdxq7 ?ryq7 ?rdyq7 ?rqq7 ?rn0q7 ?rn1q7 ?rq2q7 ?_; (k_extra "std"); (case rxq7 => k_mem); (case rdxq7 => k_mem); (case ryq7 => k_mem); (case rdyq7 => k_mem); (case rqq7 => (first | assumption | omega)); (case rn0q7 => (first | assumption | omega)); (case rn1q7 => (first | assumption | omega)); (case rq2q7 => (first | assumption | omega)); k_whole; intro x'q dx'q t1'q t2'q t3'q t4'q h'q tk'q F'q N'q b1q b2q; (try dsimp only); (try k_sweep)))
  trivial
set_option maxRecDepth 100000 in
set_option maxHeartbeats 8000000 in
theorem fq530_pow1 {x dx : Addr} {q n : Int} {a1 a2 a3 a4 : Tok} {tv : Tok}
    (hf : env.frame = some L) (hke : env.scope.kind = .function) (hdp : dp ≤ 850) (hun : un ≤ 8700)
    (B : Below A₀ base outer h₀) (F : Fr h₀ L s.heap m) (X : (hd.heap_1 w.params).In h₀) (N : News h₀ L s.heap news) (T : Top p loose mean mg mb h₀)
    (hx : (x, instObj 530 dx) ∈ news) (hdx : (dx, fqD w.params q n a1 a2 a3 a4) ∈ news) (hq : 0 < q) (hn0 : 0 ≤ n) (hn1 : n < q) (hq2 : q ≤ 4000000000000000000) 
    (hret : ∀ (x' dx' : Addr) (t1 t2 t3 t4 : Tok) (h' : Heap) (tk' : Nat), Fr h₀ L h' m → News h₀ L h' ((x', instObj 530 dx') :: (dx', fqD w.params q (n % q) t1 t2 t3 t4) :: news) → 0 ≤ (n % q) → (n % q) < q → Q (.ref x') { s with heap := h', toks := tk' }) :
    wpAny (model PR w) (ar dp un gd env outer) (call (.ref 456) [.ref x, .int 1 tv]) Q E s := by
  refine wpAny_call ?_
  k_dflt k_enter
  k_steps
  all_goals (refine hret _ _ _ _ _ _ _ _ (by k_asm) (by k_asm) (Int.emod_nonneg _ (Int.ne_of_gt hq)) (Int.emod_lt_of_pos _ hq))
theorem lay29 : True := by
  k_with "m:call ref" => ((with_reducible show wpAny _ _ (call (Value.ref 456) [Value.ref _, Value.int _ _] _) _ _ _); k_dflt (refine' fq530_pow1 ?qFq7 ?qKq7 ?qDq7 ?qUq7 ?q1q7 ?q2q7 ?q3q7 ?q4q7 ?q5q7 ?rxq7 ?rdxq7 ?rqq7 ?rn0q7 ?rn1q7 ?rq2q7 ?_; (k_extra "std"); (case rxq7 => k_mem); (case rdxq7 => k_mem); (case rqq7 => (first | assumption | omega)); (case rn0q7 => (first | assumption | omega)); (case rn1q7 => (first | assumption | omega)); (case rq2q7 => (first | assumption | omega)); k_whole; intro x'q dx'q t1'q t2'q t3'q t4'q h'q tk'q F'q N'q b1q b2q; (try dsimp only); (try k_sweep)))
  trivial
set_option maxRecDepth 100000 in
set_option maxHeartbeats 8000000 in
theorem fq530_pow2 {x dx : Addr} {q n : Int} {a1 a2 a3 a4 : Tok} {tv : Tok}
    (hf : env.frame = some L) (hke : env.scope.kind = .function) (hdp : dp ≤ 840) (hun : un ≤ 8600)
    (B : Below A₀ base outer h₀) (F : Fr h₀ L s.heap m) (X : (hd.heap_1 w.params).In h₀) (N : News h₀ L s.heap news) (T : Top p loose mean mg mb h₀)
    (hx : (x, instObj 530 dx) ∈ news) (hdx : (dx, fqD w.params q n a1 a2 a3 a4) ∈ news) (hq : 0 < q) (hn0 : 0 ≤ n) (hn1 : n < q) (hq2 : q ≤ 4000000000000000000) 
    (hret : ∀ (x' dx' : Addr) (t1 t2 t3 t4 : Tok) (h' : Heap) (tk' : Nat), Fr h₀ L h' m → News h₀ L h' ((x', instObj 530 dx') :: (dx', fqD w.params q ((n * n) % q) t1 t2 t3 t4) :: news) → 0 ≤ ((n * n) % q) → ((n * n) % q) < q → Q (.ref x') { s with heap := h', toks := tk' }) :
    wpAny (model PR w) (ar dp un gd env outer) (call (.ref 456) [.ref x, .int 2 tv]) Q E s := by
  refine wpAny_call ?_
  k_dflt k_enter
  k_steps
  all_goals (refine hret _ _ _ _ _ _ _ _ (by k_asm) (fq_drop (by k_asm) (by k_mem) (by k_mem) (by repeat (first | exact (fun _ h9 => h9) | refine sub_tail ?_)) (Int.emod_emod _ _)) (Int.emod_nonneg _ (Int.ne_of_gt hq)) (Int.emod_lt_of_pos _ hq))
theorem lay30 : True := by
  k_with "m:call ref" => ((with_reducible show wpAny _ _ (call (Value.ref 456) [Value.ref _, Value.int _ _] _) _ _ _); k_dflt (refine' fq530_pow2 ?qFq7 ?qKq7 ?qDq7 ?qUq7 ?q1q7 ?q2q7 ?q3q7 ?q4q7 ?q5q7 ?rxq7 ?rdxq7 ?rqq7 ?rn0q7 ?rn1q7 ?rq2q7 ?_; (k_extra "std"); (case rxq7 => k_mem); (case rdxq7 => k_mem); (case rqq7 => (first | assumption | omega)); (case rn0q7 => (first | assumption | omega)); (case rn1q7 => (first | assumption | omega)); (case rq2q7 => (first | assumption | omega)); k_whole; intro x'q dx'q t1'q t2'q t3'q t4'q h'q tk'q F'q N'q b1q b2q; (try dsimp only); (try k_sweep)))
  trivial
set_option maxRecDepth 100000 in
set_option maxHeartbeats 8000000 in
theorem fq530_pow3 {x dx : Addr} {q n : Int} {a1 a2 a3 a4 : Tok} {tv : Tok}
    (hf : env.frame = some L) (hke : env.scope.kind = .function) (hdp : dp ≤ 840) (hun : un ≤ 8600)
    (B : Below A₀ base outer h₀) (F : Fr h₀ L s.heap m) (X : (hd.heap_1 w.params).In h₀) (N : News h₀ L s.heap news) (T : Top p loose mean mg mb h₀)
    (hx : (x, instObj 530 dx) ∈ news) (hdx : (dx, fqD w.params q n a1 a2 a3 a4) ∈ news) (hq : 0 < q) (hn0 : 0 ≤ n) (hn1 : n < q) (hq2 : q ≤ 4000000000000000000) 
    (hret : ∀ (x' dx' : Addr) (t1 t2 t3 t4 : Tok) (h' : Heap) (tk' : Nat), Fr h₀ L h' m → News h₀ L h' ((x', instObj 530 dx') :: (dx', fqD w.params q ((n * n * n) % q) t1 t2 t3 t4) :: news) → 0 ≤ ((n * n * n) % q) → ((n * n * n) % q) < q → Q (.ref x') { s with heap := h', toks := tk' }) :
    wpAny (model PR w) (ar dp un gd env outer) (call (.ref 456) [.ref x, .int 3 tv]) Q E s := by
  refine wpAny_call ?_
  k_dflt k_enter
  k_steps
  all_goals (refine hret _ _ _ _ _ _ _ _ (by k_asm) (fq_drop (by k_asm) (by k_mem) (by k_mem) (by repeat (first | exact (fun _ h9 => h9) | refine sub_tail ?_)) pow3_eq) (Int.emod_nonneg _ (Int.ne_of_gt hq)) (Int.emod_lt_of_pos _ hq))
theorem lay31 : True := by
  k_with "m:call ref" => ((with_reducible show wpAny _ _ (call (Value.ref 456) [Value.ref _, Value.int _ _] _) _ _ _); k_dflt (refine' fq530_pow3 ?qFq7 ?qKq7 ?qDq7 ?qUq7 ?q1q7 ?q2q7 ?q3q7 ?q4q7 ?q5q7 ?rxq7 ?rdxq7 ?rqq7 ?rn0q7 ?rn1q7 ?rq2q7 ?_; (k_extra "std"); (case rxq7 => k_mem); (case rdxq7 => k_mem); (case rqq7 => (first | assumption | omega)); (case rn0q7 => (first | assumption | omega)); (case rn1q7 => (first | assumption | omega)); (case rq2q7 => (first | assumption | omega)); k_whole; intro x'q dx'q t1'q t2'q t3'q t4'q h'q tk'q F'q N'q b1q b2q; (try dsimp only); (try k_sweep)))
  trivial
set_option maxRecDepth 100000 in
set_option maxHeartbeats 8000000 in
theorem fq530_eq {x dx : Addr} {q n : Int} {a1 a2 a3 a4 : Tok} {y dy : Addr} {qy k : Int} {b1 b2 b3 b4 : Tok}
    (hf : env.frame = some L) (hke : env.scope.kind = .function) (hdp : dp ≤ 880) (hun : un ≤ 8900)
    (B : Below A₀ base outer h₀) (F : Fr h₀ L s.heap m) (X : (hd.heap_1 w.params).In h₀) (N : News h₀ L s.heap news) (T : Top p loose mean mg mb h₀)
    (hx : (x, instObj 530 dx) ∈ news) (hdx : (dx, fqD w.params q n a1 a2 a3 a4) ∈ news) (hy : (y, instObj 530 dy) ∈ news) (hdy : (dy, fqD w.params qy k b1 b2 b3 b4) ∈ news)
    (hret : ∀ (h' : Heap) (tk' : Nat), Fr h₀ L h' m → News h₀ L h' news → Q (.bool (decide (n = k))) { s with heap := h', toks := tk' }) :
    wpAny (model PR w) (ar dp un gd env outer) (call (.ref 463) [.ref x, .ref y]) Q E s := by
  refine wpAny_call ?_
  k_dflt k_enter
  k_steps
  all_goals (exact hret _ _ (by k_asm) (by k_asm))
theorem lay32 : True := by
  k_with "m:call ref" => ((with_reducible show wpAny _ _ (call (Value.ref 463) [Value.ref _, Value.ref _] _) _ _ _); k_dflt (refine' fq530_eq ?qFq7 ?qKq7 ?qDq7 ?qUq7 ?q1q7 ?q2q7 ?q3q7 ?q4q7 ?q5q7 ?rxq7 ?rdxq7 ?ryq7 ?rdyq7 ?_; (k_extra "std"); (case rxq7 => k_mem); (case rdxq7 => k_mem); (case ryq7 => k_mem); (case rdyq7 => k_mem); k_whole; intro h'q tk'q F'q N'q; (try dsimp only); (try k_sweep)))
  trivial
end

-- piece fq254
section
variable {w : World} {p : Program} {loose : List Str} {mean : ExcName → Option Value} {mg mb : Str → Option Value} {dp un : Nat} {gd : Option (List Code)} {A₀ : Around} {env : Env} {outer : List Env} {base h₀ : Heap} {L : Addr} {m : Str → Option Value} {s : Shared} {Q E : Value → Shared → Prop} {news : List (Addr × Obj)}
set_option maxRecDepth 100000 in
set_option maxHeartbeats 8000000 in
theorem fq254_new {v q : Int} {tv tq : Tok}
    (hf : env.frame = some L) (hke : env.scope.kind = .function) (hdp : dp ≤ 900) (hun : un ≤ 9000)
    (B : Below A₀ base outer h₀) (F : Fr h₀ L s.heap m) (X : (hd.heap_1 w.params).In h₀) (N : News h₀ L s.heap news) (T : Top p loose mean mg mb h₀)
    (hq : 0 < q)
    (hret : ∀ (x' dx' : Addr) (t1 t2 t3 t4 : Tok) (h' : Heap) (tk' : Nat), Fr h₀ L h' m → News h₀ L h' ((x', instObj 254 dx') :: (dx', fqD w.params q (v % q) t1 t2 t3 t4) :: news) → (∀ p ∈ news, p.1 < dx') → dx' < x' → 0 ≤ (v % q) → (v % q) < q → Q (.ref x') { s with heap := h', toks := tk' }) :
    wpAny (model PR w) (ar dp un gd env outer) (call (.ref 254) [.int v tv, .int q tq]) Q E s := by
  k_steps
  all_goals (refine hret _ _ _ _ _ _ _ _ (by k_asm) (fq_eq (Int.fmod_eq_emod_of_nonneg _ (Int.le_of_lt hq)) (by k_asm)) (by first | assumption | exact ktn_ltOf (by assumption)) (by assumption) (Int.emod_nonneg _ (Int.ne_of_gt hq)) (Int.emod_lt_of_pos _ hq))
theorem lay33 : True := by
  k_with "m:call ref" => ((with_reducible show wpAny _ _ (call (Value.ref 254) [Value.int _ _, Value.int _ _] _) _ _ _); k_dflt (refine' fq254_new ?qFq7 ?qKq7 ?qDq7 ?qUq7 ?q1q7 ?q2q7 ?q3q7 ?q4q7 ?q5q7 ?rqq7 ?_; (k_extra "std"); (case rqq7 => (first | assumption | omega | decide)); k_whole; intro x'q dx'q t1'q t2'q t3'q t4'q h'q tk'q F'q N'q l1q l2q b1q b2q; (try dsimp only); (try k_sweep); (try k_lt l1q); (try k_lt2 l2q)))
  trivial
set_option maxRecDepth 100000 in
set_option maxHeartbeats 8000000 in
theorem fq254_newfq {x dx : Addr} {q n : Int} {a1 a2 a3 a4 : Tok} {q2 : Int} {tq : Tok}
    (hf : env.frame = some L) (hke : env.scope.kind = .function) (hdp : dp ≤ 900) (hun : un ≤ 9000)
    (B : Below A₀ base outer h₀) (F : Fr h₀ L s.heap m) (X : (hd.heap_1 w.params).In h₀) (N : News h₀ L s.heap news) (T : Top p loose mean mg mb h₀)
    (hx : (x, instObj 254 dx) ∈ news) (hdx : (dx, fqD w.params q n a1 a2 a3 a4) ∈ news)
    (hret : ∀ (x' dx' : Addr) (t1 t2 t3 t4 : Tok) (h' : Heap) (tk' : Nat), Fr h₀ L h' m → News h₀ L h' ((x', instObj 254 dx') :: (dx', fqD w.params q2 (n) t1 t2 t3 t4) :: news) → (∀ p ∈ news, p.1 < dx') → dx' < x' → Q (.ref x') { s with heap := h', toks := tk' }) :
    wpAny (model PR w) (ar dp un gd env outer) (call (.ref 254) [.ref x, .int q2 tq]) Q E s := by
  k_steps
  all_goals (refine hret _ _ _ _ _ _ _ _ (by k_asm) (by k_asm) (by first | assumption | exact ktn_ltOf (by assumption)) (by assumption))
theorem lay34 : True := by
  k_with "m:call ref" => ((with_reducible show wpAny _ _ (call (Value.ref 254) [Value.ref _, Value.int _ _] _) _ _ _); k_dflt (refine' fq254_newfq ?qFq7 ?qKq7 ?qDq7 ?qUq7 ?q1q7 ?q2q7 ?q3q7 ?q4q7 ?q5q7 ?rxq7 ?rdxq7 ?_; (k_extra "std"); (case rxq7 => k_mem); (case rdxq7 => k_mem); k_whole; intro x'q dx'q t1'q t2'q t3'q t4'q h'q tk'q F'q N'q l1q l2q; (try dsimp only); (try k_sweep); (try k_lt l1q); (try k_lt2 l2q)))
  trivial
set_option maxRecDepth 100000 in
set_option maxHeartbeats 8000000 in
theorem fq254_made {x dx : Addr} {q n : Int} {a1 a2 a3 a4 : Tok} {v : Int} {tv : Tok}
    (hf : env.frame = some L) (hke : env.scope.kind = .function) (hdp : dp ≤ 880) (hun : un ≤ 8900)
    (B : Below A₀ base outer h₀) (F : Fr h₀ L s.heap m) (X : (hd.heap_1 w.params).In h₀) (N : News h₀ L s.heap news) (T : Top p loose mean mg mb h₀)
    (hx : (x, instObj 254 dx) ∈ news) (hdx : (dx, fqD w.params q n a1 a2 a3 a4) ∈ news) (hq : 0 < q)
    (hret : ∀ (x' dx' : Addr) (t1 t2 t3 t4 : Tok) (h' : Heap) (tk' : Nat), Fr h₀ L h' m → News h₀ L h' ((x', instObj 254 dx') :: (dx', fqD w.params q (v % q) t1 t2 t3 t4) :: news) → (∀ p ∈ news, p.1 < dx') → dx' < x' → 0 ≤ (v % q) → (v % q) < q → Q (.ref x') { s with heap := h', toks := tk' }) :
    wpAny (model PR w) (ar dp un gd env outer) (call (.ref 237) [.ref x, .int v tv]) Q E s := by
  refine wpAny_call ?_
  k_dflt k_enter
  k_steps
  all_goals (refine hret _ _ _ _ _ _ _ _ (by k_asm) (by k_asm) (by first | assumption | exact ktn_ltOf (by assumption)) (by assumption) (Int.emod_nonneg _ (Int.ne_of_gt hq)) (Int.emod_lt_of_pos _ hq))
theorem lay35 : True := by
  k_with "m:call ref" => ((with_reducible show wpAny _ _ (call (Value.ref 237) [Value.ref _, Value.int _ _] _) _ _ _); k_dflt (refine' fq254_made ?qFq7 ?qKq7 ?qDq7 ?qUq7 ?q1q7 ?q2q7 ?q3q7 ?q4q7 ?q5q7 ?rxq7 ?rdxq7 ?rqq7 ?_; (k_extra "std"); (case rxq7 => k_mem); (case rdxq7 => k_mem); (case rqq7 => (first | assumption | omega)); k_whole; intro x'q dx'q t1'q t2'q t3'q t4'q h'q tk'q F'q N'q l1q l2q b1q b2q; (try dsimp only); (try k_sweep); clear l1q l2q))
  k_with "m:call ref" => ((with_reducible show wpAny _ _ (call (Value.ref 254) [Value.int _ _, Value.int _ _] _) _ _ _); k_dflt (refine' fq254_new ?qFq7 ?qKq7 ?qDq7 ?qUq7 ?q1q7 ?q2q7 ?q3q7 ?q4q7 ?q5q7 ?rqq7 ?_; (k_extra "std"); (case rqq7 => (first | assumption | omega | decide)); k_whole; intro x'q dx'q t1'q t2'q t3'q t4'q h'q tk'q F'q N'q l1q l2q b1q b2q; (try dsimp only); (try k_sweep); clear l1q l2q))
  k_with "m:call ref" => ((with_reducible show wpAny _ _ (call (Value.ref 254) [Value.ref _, Value.int _ _] _) _ _ _); k_dflt (refine' fq254_newfq ?qFq7 ?qKq7 ?qDq7 ?qUq7 ?q1q7 ?q2q7 ?q3q7 ?q4q7 ?q5q7 ?rxq7 ?rdxq7 ?_; (k_extra "std"); (case rxq7 => k_mem); (case rdxq7 => k_mem); k_whole; intro x'q dx'q t1'q t2'q t3'q t4'q h'q tk'q F'q N'q l1q l2q; (try dsimp only); (try k_sweep); clear l1q l2q))
  trivial
set_option maxRecDepth 100000 in
set_option maxHeartbeats 8000000 in
theorem fq254_mul {x dx : Addr} {q n : Int} {a1 a2 a3 a4 : Tok} {y dy : Addr} {qy k : Int} {b1 b2 b3 b4 : Tok}
    (hf : env.frame = some L) (hke : env.scope.kind = .function) (hdp : dp ≤ 860) (hun : un ≤ 8800)
    (B : Below A₀ base outer h₀) (F : Fr h₀ L s.heap m) (X : (hd.heap_1 w.params).In h₀) (N : News h₀ L s.heap news) (T : Top p loose mean mg mb h₀)
    (hx : (x, instObj 254 dx) ∈ news) (hdx : (dx, fqD w.params q n a1 a2 a3 a4) ∈ news) (hy : (y, instObj 254 dy) ∈ news) (hdy : (dy, fqD w.params qy k b1 b2 b3 b4) ∈ news) (hq : 0 < q) (hn0 : 0 ≤ n) (hn1 : n < q) (hq2 : q ≤ 4000000000000000000) 
    (hret : ∀ (x' dx' : Addr) (t1 t2 t3 t4 : Tok) (h' : Heap) (tk' : Nat), Fr h₀ L h' m → News h₀ L h' ((x', instObj 254 dx') :: (dx', fqD w.params q ((n * k) % q) t1 t2 t3 t4) :: news) → 0 ≤ ((n * k) % q) → ((n * k) % q) < q → Q (.ref x') { s with heap := h', toks := tk' }) :
    wpAny (model PR w) (ar dp un gd env outer) (call (.ref 139) [.ref x, .ref y]) Q E s := by
  refine wpAny_call ?_
  k_dflt k_enter
  k_steps
  all_goals (refine hret _ _ _ _ _ _ _ _ (by k_asm) (fq_eq (fmod_emod hq) (by k_asm)) (Int.emod_nonneg _ (Int.ne_of_gt hq)) (Int.emod_lt_of_pos _ hq))
theorem lay36 : True := by
  k_with "m:call ref" => ((with_reducible show wpAny _ _ (call (Value.ref 139) [Value.ref _, Value.ref _] _) _ _ _); k_dflt (refine' fq254_mul ?qFq7 ?qKq7 ?qDq7 ?qUq7 ?q1q7 ?q2q7 ?q3q7 ?q4q7 ?q5q7 ?rxq7 ?rdxq7 ?ryq7 ?rdyq7 ?rqq7 ?rn0q7 ?rn1q7 ?rq2q7 ?_; (k_extra "std"); (case rxq7 => k_mem); (case rdxq7 => k_mem); (case ryq7 => k_mem); (case rdyq7 => k_mem); (case rqq7 => (first | assumption | omega)); (case rn0q7 => (first | assumption | omega)); (case rn1q7 => (first | assumption | omega)); (case rq2q7 => (first | assumption | omega)); k_whole; intro x'q dx'q t1'q t2'q t3'q t4'q h'q tk'q F'q N'q b1q b2q; (try dsimp only); (try k_sweep)))
  trivial
set_option maxRecDepth 100000 in
set_option maxHeartbeats 8000000 in
theorem fq254_sub {x dx : Addr} {q n : Int} {a1 a2 a3 a4 : Tok} {y dy : Addr} {qy k : Int} {b1 b2 b3 b4 : Tok}
    (hf : env.frame = some L) (hke : env.scope.kind = .function) (hdp : dp ≤ 860) (hun : un ≤ 8800)
    (B : Below A₀ base outer h₀) (F : Fr h₀ L s.heap m) (X : (hd.heap_1 w.params).In h₀) (N : News h₀ L s.heap news) (T : Top p loose mean mg mb h₀)
    (hx : (x, instObj 254 dx) ∈ news) (hdx : (dx, fqD w.params q n a1 a2 a3 a4) ∈ news) (hy : (y, instObj 254 dy) ∈ news) (hdy : (dy, fqD w.params qy k b1 b2 b3 b4) ∈ news) (hq : 0 < q) (hn0 : 0 ≤ n) (hn1 : n < q) (hq2 : q ≤ 4000000000000000000) 
    (hret : ∀ (x' dx' : Addr) (t1 t2 t3 t4 : Tok) (h' : Heap) (tk' : Nat), Fr h₀ L h' m → News h₀ L h' ((x', instObj 254 dx') :: (dx', fqD w.params q ((n - k) % q) t1 t2 t3 t4) :: news) → 0 ≤ ((n - k) % q) → ((n - k) % q) < q → Q (.ref x') { s with heap := h', toks := tk' }) :
    wpAny (model PR w) (ar dp un gd env outer) (call (.ref 167) [.ref x, .ref y]) Q E s := by
  refine wpAny_call ?_
  k_dflt k_enter
  k_steps
  all_goals (refine hret _ _ _ _ _ _ _ _ (by k_asm) (fq_eq (fmod_emod hq) (by k_asm)) (Int.emod_nonneg _ (Int.ne_of_gt hq)) (Int.emod_lt_of_pos _ hq))
theorem lay37 : True := by
  k_with "m:call ref" => ((with_reducible show wpAny _ _ (call (Value.ref 167) [Value.ref _, Value.ref _] _) _ _ _); k_dflt (refine' fq254_sub ?qFq7 ?qKq7 ?qDq7 ?qUq7 ?q1q7 ?q2q7 ?q3q7 ?q4q7 ?q5q7 ?rxq7 ?rdxq7 ?ryq7 ?rdyq7 ?rqq7 ?rn0q7 ?rn1q7 ?rq2q7 ?_; (k_extra "std"); (case rxq7 => k_mem); (case rdxq7 => k_mem); (case ryq7 => k_mem); (case rdyq7 => k_mem); (case rqq7 => (first | assumption | omega)); (case rn0q7 => (first | assumption | omega)); (case rn1q7 => (first | assumption | omega)); (case rq2q7 => (first | assumption | omega)); k_whole; intro x'q dx'q t1'q t2'q t3'q t4'q h'q tk'q F'q N'q b1q b2q; (try dsimp only); (try k_sweep)))
  k_with "m:call ref" => ((with_reducible show wpAny _ _ (call (Value.ref 132) [Value.ref _, Value.ref _] _) _ _ _); k_dflt (refine' fq254_add ?qFq7 ?qKq7 ?qDq7 ?qUq7 ?q1q7 ?q2q7 ?q3q7 ?q4q7 ?q5q7 ?rxq7 ?rdxq7 ?ryq7 ?rdyq7 ?rqq7 ?rn0q7 ?rn1q7 ?rq2q7 ?_; (k_extra "std"); (case rxq7 => k_mem); (case rdxq7 => k_mem); (case ryq7 => k_mem); (case rdyq7 => k_mem); (case rqq7 => (first | assumption | omega)); (case rn0q7 => (first | assumption | omega)); (case rn1q7 => (first | assumption | omega)); (case rq2q7 => (first | assumption | omega)); k_whole; intro x'q dx'q t1'q t2'q t3'q t4'q h'q tk'q F'q N'q b1q b2q; (try dsimp only); (try k_sweep)))
  trivial
set_option maxRecDepth 100000 in
set_option maxHeartbeats 8000000 in
theorem fq254_pow1 {x dx : Addr} {q n : Int} {a1 a2 a3 a4 : Tok} {tv : Tok}
    (hf : env.frame = some L) (hke : env.scope.kind = .function) (hdp : dp ≤ 850) (hun : un ≤ 8700)
    (B : Below A₀ base outer h₀) (F : Fr h₀ L s.heap m) (X : (hd.heap_1 w.params).In h₀) (N : News h₀ L s.heap news) (T : Top p loose mean mg mb h₀)
    (hx : (x, instObj 254 dx) ∈ news) (hdx : (dx, fqD w.params q n a1 a2 a3 a4) ∈ news) (hq : 0 < q) (hn0 : 0 ≤ n) (hn1 : n < q) (hq2 : q ≤ 4000000000000000000) 
    (hret : ∀ (x' dx' : Addr) (t1 t2 t3 t4 : Tok) (h' : Heap) (tk' : Nat), Fr h₀ L h' m → News h₀ L h' ((x', instObj 254 dx') :: (dx', fqD w.params q (n % q) t1 t2 t3 t4) :: news) → 0 ≤ (n % q) → (n % q) < q → Q (.ref x') { s with heap := h', toks := tk' }) :
    wpAny (model PR w) (ar dp un gd env outer) (call (.ref 188) [.ref x, .int 1 tv]) Q E s := by
  refine wpAny_call ?_
  k_dflt k_enter
  k_steps
  all_goals (refine hret _ _ _ _ _ _ _ _ (by k_asm) (by k_asm) (Int.emod_nonneg _ (Int.ne_of_gt hq)) (Int.emod_lt_of_pos _ hq))
theorem lay38 : True := by
  k_with "m:call ref" => ((with_reducible show wpAny _ _ (call (Value.ref 188) [Value.ref _, Value.int _ _] _) _ _ _); k_dflt (refine' fq254_pow1 ?qFq7 ?qKq7 ?qDq7 ?qUq7 ?q1q7 ?q2q7 ?q3q7 ?q4q7 ?q5q7 ?rxq7 ?rdxq7 ?rqq7 ?rn0q7 ?rn1q7 ?rq2q7 ?_; (k_extra "std"); (case rxq7 => k_mem); (case rdxq7 => k_mem); (case rqq7 => (first | assumption | omega)); (case rn0q7 => (first | assumption | omega)); (case rn1q7 => (first | assumption | omega)); (case rq2q7 => (first | assumption | omega)); k_whole; intro x'q dx'q t1'q t2'q t3'q t4'q h'q tk'q F'q N'q b1q b2q; (try dsimp only); (try k_sweep)))
  trivial
set_option maxRecDepth 100000 in
set_option maxHeartbeats 8000000 in
theorem fq254_pow2 {x dx : Addr} {q n : Int} {a1 a2 a3 a4 : Tok} {tv : Tok}
    (hf : env.frame = some L) (hke : env.scope.kind = .function) (hdp : dp ≤ 840) (hun : un ≤ 8600)
    (B : Below A₀ base outer h₀) (F : Fr h₀ L s.heap m) (X : (hd.heap_1 w.params).In h₀) (N : News h₀ L s.heap news) (T : Top p loose mean mg mb h₀)
    (hx : (x, instObj 254 dx) ∈ news) (hdx : (dx, fqD w.params q n a1 a2 a3 a4) ∈ news) (hq : 0 < q) (hn0 : 0 ≤ n) (hn1 : n < q) (hq2 : q ≤ 4000000000000000000) 
    (hret : ∀ (x' dx' : Addr) (t1 t2 t3 t4 : Tok) (h' : Heap) (tk' : Nat), Fr h₀ L h' m → News h₀ L h' ((x', instObj 254 dx') :: (dx', fqD w.params q ((n * n) % q) t1 t2 t3 t4) :: news) → 0 ≤ ((n * n) % q) → ((n * n) % q) < q → Q (.ref x') { s with heap := h', toks := tk' }) :
    wpAny (model PR w) (ar dp un gd env outer) (call (.ref 188) [.ref x, .int 2 tv]) Q E s := by
  refine wpAny_call ?_
  k_dflt k_enter
  k_steps
  all_goals (refine hret _ _ _ _ _ _ _ _ (by k_asm) (fq_drop (by k_asm) (by k_mem) (by k_mem) (by repeat (first | exact (fun _ h9 => h9) | refine sub_tail ?_)) (Int.emod_emod _ _)) (Int.emod_nonneg _ (Int.ne_of_gt hq)) (Int.emod_lt_of_pos _ hq))
theorem lay39 : True := by
  k_with "m:call ref" => ((with_reducible show wpAny _ _ (call (Value.ref 188) [Value.ref _, Value.int _ _] _) _ _ _); k_dflt (refine' fq254_pow2 ?qFq7 ?qKq7 ?qDq7 ?qUq7 ?q1q7 ?q2q7 ?q3q7 ?q4q7 ?q5q7 ?rxq7 ?rdxq7 ?rqq7 ?rn0q7 ?rn1q7 ?rq2q7 ?_; (k_extra "std"); (case rxq7 => k_mem); (case rdxq7 => k_mem); (case rqq7 => (first | assumption | omega)); (case rn0q7 => (first | assumption | omega)); (case rn1q7 => (first | assumption | omega)); (case rq2q7 => (first | assumption | omega)); k_whole; intro x'q dx'q t1'q t2'q t3'q t4'q h'q tk'q F'q N'q b1q b2q; (try dsimp only); (try k_sweep)))
  trivial
set_option maxRecDepth 100000 in
set_option maxHeartbeats 8000000 in
theorem fq254_pow3 {x dx : Addr} {q n : Int} {a1 a2 a3 a4 : Tok} {tv : Tok}
    (hf : env.frame = some L) (hke : env.scope.kind = .function) (hdp : dp ≤ 840) (hun : un ≤ 8600)
    (B : Below A₀ base outer h₀) (F : Fr h₀ L s.heap m) (X : (hd.heap_1 w.params).In h₀) (N : News h₀ L s.heap news) (T : Top p loose mean mg mb h₀)
    (hx : (x, instObj 254 dx) ∈ news) (hdx : (dx, fqD w.params q n a1 a2 a3 a4) ∈ news) (hq : 0 < q) (hn0 : 0 ≤ n) (hn1 : n < q) (hq2 : q ≤ 4000000000000000000) 
    (hret : ∀ (x' dx' : Addr) (t1 t2 t3 t4 : Tok) (h' : Heap) (tk' : Nat), Fr h₀ L h' m → News h₀ L h' ((x', instObj 254 dx') :: (dx', fqD w.params q ((n * n * n) % q) t1 t2 t3 t4) :: news) → 0 ≤ ((n * n * n) % q) → ((n * n * n) % q) < q → Q (.ref x') { s with heap := h', toks := tk' }) :
    wpAny (model PR w) (ar dp un gd env outer) (call (.ref 188) [.ref x, .int 3 tv]) Q E s := by
  refine wpAny_call ?_
  k_dflt k_enter
  k_steps
  all_goals (refine hret _ _ _ _ _ _ _ _ (by k_asm) (fq_drop (by k_asm) (by k_mem) (by k_mem) (by repeat (first | exact (fun _ h9 => h9) | refine sub_tail ?_)) pow3_eq) (Int.emod_nonneg _ (Int.ne_of_gt hq)) (Int.emod_lt_of_pos _ hq))
theorem lay40 : True := by
  k_with "m:call ref" => ((with_reducible show wpAny _ _ (call (Value.ref 188) [Value.ref _, Value.int _ _] _) _ _ _); k_dflt (refine' fq254_pow3 ?qFq7 ?qKq7 ?qDq7 ?qUq7 ?q1q7 ?q2q7 ?q3q7 ?q4q7 ?q5q7 ?rxq7 ?rdxq7 ?rqq7 ?rn0q7 ?rn1q7 ?rq2q7 ?_; (k_extra "std"); (case rxq7 => k_mem); (case rdxq7 => k_mem); (case rqq7 => (first | assumption | omega)); (case rn0q7 => (first | assumption | omega)); (case rn1q7 => (first | assumption | omega)); (case rq2q7 => (first | assumption | omega)); k_whole; intro x'q dx'q t1'q t2'q t3'q t4'q h'q tk'q F'q N'q b1q b2q; (try dsimp only); (try k_sweep)))
  trivial
set_option maxRecDepth 100000 in
set_option maxHeartbeats 8000000 in
theorem fq254_eq {x dx : Addr} {q n : Int} {a1 a2 a3 a4 : Tok} {y dy : Addr} {qy k : Int} {b1 b2 b3 b4 : Tok}
    (hf : env.frame = some L) (hke : env.scope.kind = .function) (hdp : dp ≤ 880) (hun : un ≤ 8900)
    (B : Below A₀ base outer h₀) (F : Fr h₀ L s.heap m) (X : (hd.heap_1 w.params).In h₀) (N : News h₀ L s.heap news) (T : Top p loose mean mg mb h₀)
    (hx : (x, instObj 254 dx) ∈ news) (hdx : (dx, fqD w.params q n a1 a2 a3 a4) ∈ news) (hy : (y, instObj 254 dy) ∈ news) (hdy : (dy, fqD w.params qy k b1 b2 b3 b4) ∈ news)
    (hret : ∀ (h' : Heap) (tk' : Nat), Fr h₀ L h' m → News h₀ L h' news → Q (.bool (decide (n = k))) { s with heap := h', toks := tk' }) :
    wpAny (model PR w) (ar dp un gd env outer) (call (.ref 195) [.ref x, .ref y]) Q E s := by
  refine wpAny_call ?_
  k_dflt k_enter
  k_steps
  all_goals (exact hret _ _ (by k_asm) (by k_asm))
theorem lay41 : True := by
  k_with "m:call ref" => ((with_reducible show wpAny _ _ (call (Value.ref 195) [Value.ref _, Value.ref _] _) _ _ _); k_dflt (refine' fq254_eq ?qFq7 ?qKq7 ?qDq7 ?qUq7 ?q1q7 ?q2q7 ?q3q7 ?q4q7 ?q5q7 ?rxq7 ?rdxq7 ?ryq7 ?rdyq7 ?_; (k_extra "std"); (case rxq7 => k_mem); (case rdxq7 => k_mem); (case ryq7 => k_mem); (case rdyq7 => k_mem); k_whole; intro h'q tk'q F'q N'q; (try dsimp only); (try k_sweep)))
  trivial
end

-- piece corr
noncomputable abbrev p1D (P : Params) (q : Int) (t1 t2 : Tok) : Obj := dictOf [⟨PyData.keyHash P (Str.ofString "field_modulus"), .str (Str.ofString "field_modulus") t1, .int q t2⟩] 1
noncomputable abbrev p4D (P : Params) (q : Int) (tc tm : Addr) (dg : Int) (t1 t2 t3 t4 t5 t6 : Tok) : Obj := dictOf [⟨PyData.keyHash P (Str.ofString "field_modulus"), .str (Str.ofString "field_modulus") t1, .int q t2⟩, ⟨PyData.keyHash P (Str.ofString "coeffs"), .str (Str.ofString "coeffs") t3, .ref tc⟩, ⟨PyData.keyHash P (Str.ofString "modulus_coeffs"), .str (Str.ofString "modulus_coeffs") t4, .ref tm⟩, ⟨PyData.keyHash P (Str.ofString "degree"), .str (Str.ofString "degree") t5, .int dg t6⟩] 4
theorem lay42 : True := by
  k_with "m:call ref" => ((with_reducible show wpAny _ _ (call (Value.ref 254) [Value.int _ _, Value.int _ _] _) _ _ _); k_dflt (refine' fq254_new ?qFq7 ?qKq7 ?qDq7 ?qUq7 ?q1q7 ?q2q7 ?q3q7 ?q4q7 ?q5q7 ?rqq7 ?_; (k_extra "std"); (case rqq7 => (first | assumption | omega | decide)); k_whole; intro x'q dx'q t1'q t2'q t3'q t4'q h'q tk'q F'q N'q l1q l2q b1q b2q; (try dsimp only); (try k_sweep)))
  k_with "m:call ref" => ((with_reducible show wpAny _ _ (call (Value.ref 254) [Value.ref _, Value.int _ _] _) _ _ _); k_dflt (refine' fq254_newfq ?qFq7 ?qKq7 ?qDq7 ?qUq7 ?q1q7 ?q2q7 ?q3q7 ?q4q7 ?q5q7 ?rxq7 ?rdxq7 ?_; (k_extra "std"); (case rxq7 => k_mem); (case rdxq7 => k_mem); k_whole; intro x'q dx'q t1'q t2'q t3'q t4'q h'q tk'q F'q N'q l1q l2q; (try dsimp only); (try k_sweep)))
  trivial
section
variable {w : World} {p : Program} {loose : List Str} {mean : ExcName → Option Value} {mg mb : Str → Option Value} {dp un : Nat} {gd : Option (List Code)} {A₀ : Around} {env : Env} {outer : List Env} {base h₀ : Heap} {L : Addr} {m : Str → Option Value} {s : Shared} {Q E : Value → Shared → Prop} {news : List (Addr × Obj)}
set_option maxRecDepth 100000 in
set_option maxHeartbeats 8000000 in
theorem corr1_int {x dx : Addr} {q k : Int} {t1 t2 : Tok} {tk : Tok}
    (hf : env.frame = some L) (hke : env.scope.kind = .function) (hdp : dp ≤ 860) (hun : un ≤ 8600)
    (B : Below A₀ base outer h₀) (F : Fr h₀ L s.heap m) (X : (hd.heap_1 w.params).In h₀) (N : News h₀ L s.heap news) (T : Top p loose mean mg mb h₀)
    (hx : (x, instObj 368 dx) ∈ news) (hdx : (dx, p1D w.params q t1 t2) ∈ news) (hq : 0 < q)
    (hret : ∀ (x' dx' : Addr) (t1 t2 t3 t4 : Tok) (h' : Heap) (tk' : Nat), Fr h₀ L h' m → News h₀ L h' ((x', instObj 254 dx') :: (dx', fqD w.params q (k % q) t1 t2 t3 t4) :: news) → (∀ p ∈ news, p.1 < dx') → dx' < x' → 0 ≤ (k % q) → (k % q) < q → Q (.ref x') { s with heap := h', toks := tk' }) :
    wpAny (model PR w) (ar dp un gd env outer) (call (.ref 286) [.ref x, .int k tk]) Q E s := by
  refine wpAny_call ?_
  k_dflt k_enter
  k_steps
  all_goals (refine hret _ _ _ _ _ _ _ _ (by k_asm) (by k_asm) (by first | assumption | exact ktn_ltOf (by assumption)) (by assumption) (Int.emod_nonneg _ (Int.ne_of_gt hq)) (Int.emod_lt_of_pos _ hq))
set_option maxRecDepth 100000 in
set_option maxHeartbeats 8000000 in
theorem corr4_int {x dx : Addr} {q k : Int} {tc tm : Addr} {dg : Int} {t1 t2 t3 t4 t5 t6 : Tok} {tk : Tok}
    (hf : env.frame = some L) (hke : env.scope.kind = .function) (hdp : dp ≤ 860) (hun : un ≤ 8600)
    (B : Below A₀ base outer h₀) (F : Fr h₀ L s.heap m) (X : (hd.heap_1 w.params).In h₀) (N : News h₀ L s.heap news) (T : Top p loose mean mg mb h₀)
    (hx : (x, instObj 368 dx) ∈ news) (hdx : (dx, p4D w.params q tc tm dg t1 t2 t3 t4 t5 t6) ∈ news) (hq : 0 < q)
    (hret : ∀ (x' dx' : Addr) (t1 t2 t3 t4 : Tok) (h' : Heap) (tk' : Nat), Fr h₀ L h' m → News h₀ L h' ((x', instObj 254 dx') :: (dx', fqD w.params q (k % q) t1 t2 t3 t4) :: news) → (∀ p ∈ news, p.1 < dx') → dx' < x' → 0 ≤ (k % q) → (k % q) < q → Q (.ref x') { s with heap := h', toks := tk' }) :
    wpAny (model PR w) (ar dp un gd env outer) (call (.ref 286) [.ref x, .int k tk]) Q E s := by
  refine wpAny_call ?_
  k_dflt k_enter
  k_steps
  all_goals (refine hret _ _ _ _ _ _ _ _ (by k_asm) (by k_asm) (by first | assumption | exact ktn_ltOf (by assumption)) (by assumption) (Int.emod_nonneg _ (Int.ne_of_gt hq)) (Int.emod_lt_of_pos _ hq))
set_option maxRecDepth 100000 in
set_option maxHeartbeats 8000000 in
theorem corr1_fq {x dx y dy : Addr} {q n : Int} {t1 t2 : Tok} {a1 a2 a3 a4 : Tok}
    (hf : env.frame = some L) (hke : env.scope.kind = .function) (hdp : dp ≤ 860) (hun : un ≤ 8600)
    (B : Below A₀ base outer h₀) (F : Fr h₀ L s.heap m) (X : (hd.heap_1 w.params).In h₀) (N : News h₀ L s.heap news) (T : Top p loose mean mg mb h₀)
    (hx : (x, instObj 368 dx) ∈ news) (hdx : (dx, p1D w.params q t1 t2) ∈ news) (hy : (y, instObj 254 dy) ∈ news) (hdy : (dy, fqD w.params q n a1 a2 a3 a4) ∈ news)
    (hret : ∀ (x' dx' : Addr) (t1 t2 t3 t4 : Tok) (h' : Heap) (tk' : Nat), Fr h₀ L h' m → News h₀ L h' ((x', instObj 254 dx') :: (dx', fqD w.params q n t1 t2 t3 t4) :: news) → (∀ p ∈ news, p.1 < dx') → dx' < x' → Q (.ref x') { s with heap := h', toks := tk' }) :
    wpAny (model PR w) (ar dp un gd env outer) (call (.ref 286) [.ref x, .ref y]) Q E s := by
  refine wpAny_call ?_
  k_dflt k_enter
  k_steps
  all_goals (refine hret _ _ _ _ _ _ _ _ (by k_asm) (by k_asm) (by first | assumption | exact ktn_ltOf (by assumption)) (by assumption))
end
theorem lay43 : True := by
  k_with "m:call ref" => ((with_reducible show wpAny _ _ (call (Value.ref 286) [Value.ref _, Value.int _ _] _) _ _ _); k_dflt (refine' corr1_int ?qFq7 ?qKq7 ?qDq7 ?qUq7 ?q1q7 ?q2q7 ?q3q7 ?q4q7 ?q5q7 ?rxq7 ?rdxq7 ?rqq7 ?_; (k_extra "std"); (case rxq7 => k_mem); (case rdxq7 => k_mem); (case rqq7 => (first | assumption | omega)); k_whole; intro x'q dx'q t1'q t2'q t3'q t4'q h'q tk'q F'q N'q l1q l2q b1q b2q; (try dsimp only); (try k_sweep)))
  k_with "m:call ref" => ((with_reducible show wpAny _ _ (call (Value.ref 286) [Value.ref _, Value.ref _] _) _ _ _); k_dflt (refine' corr1_fq ?qFq7 ?qKq7 ?qDq7 ?qUq7 ?q1q7 ?q2q7 ?q3q7 ?q4q7 ?q5q7 ?rxq7 ?rdxq7 ?ryq7 ?rdyq7 ?_; (k_extra "std"); (case rxq7 => k_mem); (case rdxq7 => k_mem); (case ryq7 => k_mem); (case rdyq7 => k_mem); k_whole; intro x'q dx'q t1'q t2'q t3'q t4'q h'q tk'q F'q N'q l1q l2q; (try dsimp only); (try k_sweep)))
  trivial

-- piece fq3
theorem lay44 : True := by
  k_with "m:call ref" => ((with_reducible show wpAny _ _ (call (Value.ref 237) [Value.ref _, Value.int _ _] _) _ _ _); k_dflt (refine' fq254_made ?qFq7 ?qKq7 ?qDq7 ?qUq7 ?q1q7 ?q2q7 ?q3q7 ?q4q7 ?q5q7 ?rxq7 ?rdxq7 ?rqq7 ?_; (k_extra "std"); (case rxq7 => k_mem); (case rdxq7 => k_mem); (case rqq7 => (first | assumption | omega)); k_whole; intro x'q dx'q t1'q t2'q t3'q t4'q h'q tk'q F'q N'q l1q l2q b1q b2q; (try dsimp only); (try k_sweep)))
  trivial
section
variable {w : World} {p : Program} {loose : List Str} {mean : ExcName → Option Value} {mg mb : Str → Option Value} {dp un : Nat} {gd : Option (List Code)} {A₀ : Around} {env : Env} {outer : List Env} {base h₀ : Heap} {L : Addr} {m : Str → Option Value} {s : Shared} {Q E : Value → Shared → Prop} {news : List (Addr × Obj)}
set_option maxRecDepth 100000 in
set_option maxHeartbeats 8000000 in
theorem fq254_mulF {x dx : Addr} {q n : Int} {a1 a2 a3 a4 : Tok} {y dy : Addr} {qy k : Int} {b1 b2 b3 b4 : Tok}
    (hf : env.frame = some L) (hke : env.scope.kind = .function) (hdp : dp ≤ 860) (hun : un ≤ 8800)
    (B : Below A₀ base outer h₀) (F : Fr h₀ L s.heap m) (X : (hd.heap_1 w.params).In h₀) (N : News h₀ L s.heap news) (T : Top p loose mean mg mb h₀)
    (hx : (x, instObj 254 dx) ∈ news) (hdx : (dx, fqD w.params q n a1 a2 a3 a4) ∈ news) (hy : (y, instObj 254 dy) ∈ news) (hdy : (dy, fqD w.params qy k b1 b2 b3 b4) ∈ news) (hq : 0 < q) (hn0 : 0 ≤ n) (hn1 : n < q) (hq2 : q ≤ 4000000000000000000) 
    (hret : ∀ (x' dx' : Addr) (t1 t2 t3 t4 : Tok) (h' : Heap) (tk' : Nat), Fr h₀ L h' m → News h₀ L h' ((x', instObj 254 dx') :: (dx', fqD w.params q ((n * k) % q) t1 t2 t3 t4) :: news) → (∀ p ∈ news, p.1 < dx') → dx' < x' → 0 ≤ ((n * k) % q) → ((n * k) % q) < q → Q (.ref x') { s with heap := h', toks := tk' }) :
    wpAny (model PR w) (ar dp un gd env outer) (call (.ref 139) [.ref x, .ref y]) Q E s := by
  refine wpAny_call ?_
  k_dflt k_enter
  k_steps
  all_goals (refine hret _ _ _ _ _ _ _ _ (by k_asm) (fq_eq (fmod_emod hq) (by k_asm)) (by first | assumption | exact ktn_ltOf (by assumption)) (by assumption) (Int.emod_nonneg _ (Int.ne_of_gt hq)) (Int.emod_lt_of_pos _ hq))
theorem lay45 : True := by
  k_with "m:call ref" => ((with_reducible show wpAny _ _ (call (Value.ref 139) [Value.ref _, Value.ref _] _) _ _ _); k_dflt (refine' fq254_mulF ?qFq7 ?qKq7 ?qDq7 ?qUq7 ?q1q7 ?q2q7 ?q3q7 ?q4q7 ?q5q7 ?rxq7 ?rdxq7 ?ryq7 ?rdyq7 ?rqq7 ?rn0q7 ?rn1q7 ?rq2q7 ?_; (k_extra "std"); (case rxq7 => k_mem); (case rdxq7 => k_mem); (case ryq7 => k_mem); (case rdyq7 => k_mem); (case rqq7 => (first | assumption | omega)); (case rn0q7 => (first | assumption | omega)); (case rn1q7 => (first | assumption | omega)); (case rq2q7 => (first | assumption | omega)); k_whole; intro x'q dx'q t1'q t2'q t3'q t4'q h'q tk'q F'q N'q l1q l2q b1q b2q; (try dsimp only); (try k_sweep)))
  trivial
set_option maxRecDepth 100000 in
set_option maxHeartbeats 8000000 in
theorem fq254_subF {x dx : Addr} {q n : Int} {a1 a2 a3 a4 : Tok} {y dy : Addr} {qy k : Int} {b1 b2 b3 b4 : Tok}
    (hf : env.frame = some L) (hke : env.scope.kind = .function) (hdp : dp ≤ 860) (hun : un ≤ 8800)
    (B : Below A₀ base outer h₀) (F : Fr h₀ L s.heap m) (X : (hd.heap_1 w.params).In h₀) (N : News h₀ L s.heap news) (T : Top p loose mean mg mb h₀)
    (hx : (x, instObj 254 dx) ∈ news) (hdx : (dx, fqD w.params q n a1 a2 a3 a4) ∈ news) (hy : (y, instObj 254 dy) ∈ news) (hdy : (dy, fqD w.params qy k b1 b2 b3 b4) ∈ news) (hq : 0 < q) (hn0 : 0 ≤ n) (hn1 : n < q) (hq2 : q ≤ 4000000000000000000) 
    (hret : ∀ (x' dx' : Addr) (t1 t2 t3 t4 : Tok) (h' : Heap) (tk' : Nat), Fr h₀ L h' m → News h₀ L h' ((x', instObj 254 dx') :: (dx', fqD w.params q ((n - k) % q) t1 t2 t3 t4) :: news) → (∀ p ∈ news, p.1 < dx') → dx' < x' → 0 ≤ ((n - k) % q) → ((n - k) % q) < q → Q (.ref x') { s with heap := h', toks := tk' }) :
    wpAny (model PR w) (ar dp un gd env outer) (call (.ref 167) [.ref x, .ref y]) Q E s := by
  refine wpAny_call ?_
  k_dflt k_enter
  k_steps
  all_goals (refine hret _ _ _ _ _ _ _ _ (by k_asm) (fq_eq (fmod_emod hq) (by k_asm)) (by first | assumption | exact ktn_ltOf (by assumption)) (by assumption) (Int.emod_nonneg _ (Int.ne_of_gt hq)) (Int.emod_lt_of_pos _ hq))
theorem lay46 : True := by
  k_with "m:call ref" => ((with_reducible show wpAny _ _ (call (Value.ref 167) [Value.ref _, Value.ref _] _) _ _ _); k_dflt (refine' fq254_subF ?qFq7 ?qKq7 ?qDq7 ?qUq7 ?q1q7 ?q2q7 ?q3q7 ?q4q7 ?q5q7 ?rxq7 ?rdxq7 ?ryq7 ?rdyq7 ?rqq7 ?rn0q7 ?rn1q7 ?rq2q7 ?_; (k_extra "std"); (case rxq7 => k_mem); (case rdxq7 => k_mem); (case ryq7 => k_mem); (case rdyq7 => k_mem); (case rqq7 => (first | assumption | omega)); (case rn0q7 => (first | assumption | omega)); (case rn1q7 => (first | assumption | omega)); (case rq2q7 => (first | assumption | omega)); k_whole; intro x'q dx'q t1'q t2'q t3'q t4'q h'q tk'q F'q N'q l1q l2q b1q b2q; (try dsimp only); (try k_sweep)))
  trivial
set_option maxRecDepth 100000 in
set_option maxHeartbeats 8000000 in
theorem fq254_addF {x dx : Addr} {q n : Int} {a1 a2 a3 a4 : Tok} {y dy : Addr} {qy k : Int} {b1 b2 b3 b4 : Tok}
    (hf : env.frame = some L) (hke : env.scope.kind = .function) (hdp : dp ≤ 860) (hun : un ≤ 8800)
    (B : Below A₀ base outer h₀) (F : Fr h₀ L s.heap m) (X : (hd.heap_1 w.params).In h₀) (N : News h₀ L s.heap news) (T : Top p loose mean mg mb h₀)
    (hx : (x, instObj 254 dx) ∈ news) (hdx : (dx, fqD w.params q n a1 a2 a3 a4) ∈ news) (hy : (y, instObj 254 dy) ∈ news) (hdy : (dy, fqD w.params qy k b1 b2 b3 b4) ∈ news) (hq : 0 < q) (hn0 : 0 ≤ n) (hn1 : n < q) (hq2 : q ≤ 4000000000000000000) 
    (hret : ∀ (x' dx' : Addr) (t1 t2 t3 t4 : Tok) (h' : Heap) (tk' : Nat), Fr h₀ L h' m → News h₀ L h' ((x', instObj 254 dx') :: (dx', fqD w.params q ((n + k) % q) t1 t2 t3 t4) :: news) → (∀ p ∈ news, p.1 < dx') → dx' < x' → 0 ≤ ((n + k) % q) → ((n + k) % q) < q → Q (.ref x') { s with heap := h', toks := tk' }) :
    wpAny (model PR w) (ar dp un gd env outer) (call (.ref 132) [.ref x, .ref y]) Q E s := by
  refine wpAny_call ?_
  k_dflt k_enter
  k_steps
  all_goals (refine hret _ _ _ _ _ _ _ _ (by k_asm) (fq_eq (fmod_emod hq) (by k_asm)) (by first | assumption | exact ktn_ltOf (by assumption)) (by assumption) (Int.emod_nonneg _ (Int.ne_of_gt hq)) (Int.emod_lt_of_pos _ hq))
theorem lay47 : True := by
  k_with "m:call ref" => ((with_reducible show wpAny _ _ (call (Value.ref 132) [Value.ref _, Value.ref _] _) _ _ _); k_dflt (refine' fq254_addF ?qFq7 ?qKq7 ?qDq7 ?qUq7 ?q1q7 ?q2q7 ?q3q7 ?q4q7 ?q5q7 ?rxq7 ?rdxq7 ?ryq7 ?rdyq7 ?rqq7 ?rn0q7 ?rn1q7 ?rq2q7 ?_; (k_extra "std"); (case rxq7 => k_mem); (case rdxq7 => k_mem); (case ryq7 => k_mem); (case rdyq7 => k_mem); (case rqq7 => (first | assumption | omega)); (case rn0q7 => (first | assumption | omega)); (case rn1q7 => (first | assumption | omega)); (case rq2q7 => (first | assumption | omega)); k_whole; intro x'q dx'q t1'q t2'q t3'q t4'q h'q tk'q F'q N'q l1q l2q b1q b2q; (try dsimp only); (try k_sweep)))
  trivial
end

-- piece curve
noncomputable abbrev tup2 (a b : Value) : Obj := { cls := .type "tuple", data := .seq #[a, b] }
noncomputable abbrev tup3 (a b c : Value) : Obj := { cls := .type "tuple", data := .seq #[a, b, c] }
noncomputable def onCurve (q x y b : Int) : Bool := decide ((y * y - x * x * x - b) % q = 0)
theorem onCurve_bn {q x y b : Int} (hb0 : 0 ≤ b) (hb1 : b < q) : decide ((y * y % q - x * x * x % q) % q = b) = onCurve q x y b := by
  unfold onCurve
  have e : (y * y % q - x * x * x % q) % q = (y * y - x * x * x) % q := by rw [← Int.sub_emod]
  rw [e]
  generalize y * y - x * x * x = z
  have e2 : (z % q = b % q) ↔ (z - b) % q = 0 := Int.emod_eq_emod_iff_emod_sub_eq_zero
  rw [Int.emod_eq_of_lt hb0 hb1] at e2
  by_cases h : (z - b) % q = 0
  · simp [h, e2.mpr h]
  · have h1 : z % q ≠ b := fun e => h (e2.mp e)
    simp [h, h1]
theorem emod_pos {s p : Int} (h1 : 1 ≤ s) (h2 : s < p) : 0 < s % p := by rw [Int.emod_eq_of_lt (by omega) h2]; omega
section
variable {w : World} {p : Program} {loose : List Str} {mean : ExcName → Option Value} {mg mb : Str → Option Value} {dp un : Nat} {gd : Option (List Code)} {A₀ : Around} {env : Env} {outer : List Env} {base h₀ : Heap} {L : Addr} {m : Str → Option Value} {s : Shared} {Q E : Value → Shared → Prop} {news : List (Addr × Obj)}
set_option maxRecDepth 100000 in
set_option maxHeartbeats 8000000 in
theorem bn_on_c {x dx : Addr} {q n : Int} {a1 a2 a3 a4 : Tok} {y dy : Addr} {k : Int} {b1 b2 b3 b4 : Tok} {z dz : Addr} {j : Int} {c1 c2 c3 c4 : Tok} {tp : Addr}
    (hf : env.frame = some L) (hke : env.scope.kind = .function) (hdp : dp ≤ 800) (hun : un ≤ 8000)
    (B : Below A₀ base outer h₀) (F : Fr h₀ L s.heap m) (X : (hd.heap_1 w.params).In h₀) (N : News h₀ L s.heap news) (T : Top p loose mean mg mb h₀)
    (ht : (tp, tup2 (.ref x) (.ref y)) ∈ news)
    (hx : (x, instObj 254 dx) ∈ news) (hdx : (dx, fqD w.params q n a1 a2 a3 a4) ∈ news)
    (hy : (y, instObj 254 dy) ∈ news) (hdy : (dy, fqD w.params q k b1 b2 b3 b4) ∈ news)
    (hz : (z, instObj 254 dz) ∈ news) (hdz : (dz, fqD w.params q j c1 c2 c3 c4) ∈ news)
    (hq : 0 < q) (hq2 : q ≤ 4000000000000000000) (hn0 : 0 ≤ n) (hn1 : n < q) (hk0 : 0 ≤ k) (hk1 : k < q) (hj0 : 0 ≤ j) (hj1 : j < q)
    (hret : ∀ (h' : Heap) (tk' : Nat), Fr h₀ L h' m → News h₀ L h' news → Q (.bool (onCurve q n k j)) { s with heap := h', toks := tk' }) :
    wpAny (model PR w) (ar dp un gd env outer) (call (.ref 92) [.ref tp, .ref z]) Q E s := by
  refine wpAny_call ?_
  k_dflt k_enter
  k_steps
  all_goals (refine ret_bool (onCurve_bn hj0 hj1) (hret _ _ (by k_asm) (cb_drop (by k_asm) (by repeat (first | exact (fun _ h9 => h9) | refine sub_tail ?_)))))
theorem lay48 : True := by
  k_with "m:call ref" => ((with_reducible show wpAny _ _ (call (Value.ref 92) [Value.ref _, Value.ref _] _) _ _ _); k_dflt (refine' bn_on_c ?qFq7 ?qKq7 ?qDq7 ?qUq7 ?q1q7 ?q2q7 ?q3q7 ?q4q7 ?q5q7 ?rtq7 ?rxq7 ?rdxq7 ?ryq7 ?rdyq7 ?rzq7 ?rdzq7 ?rqq7 ?rq2q7 ?rn0q7 ?rn1q7 ?rk0q7 ?rk1q7 ?rj0q7 ?rj1q7 ?_; (k_extra "std"); (case rtq7 => k_mem); (case rxq7 => k_mem); (case rdxq7 => k_mem); (case ryq7 => k_mem); (case rdyq7 => k_mem); (case rzq7 => k_mem); (case rdzq7 => k_mem); (case rqq7 => (first | assumption | omega)); (case rq2q7 => (first | assumption | omega)); (case rn0q7 => (first | assumption | omega)); (case rn1q7 => (first | assumption | omega)); (case rk0q7 => (first | assumption | omega)); (case rk1q7 => (first | assumption | omega)); (case rj0q7 => (first | assumption | omega)); (case rj1q7 => (first | assumption | omega)); k_whole; intro h'q tk'q F'q N'q; (try dsimp only); (try k_sweep)))
  trivial
set_option maxRecDepth 100000 in
set_option maxHeartbeats 8000000 in
theorem opt_inf_c {z dz : Addr} {q j : Int} {c1 c2 c3 c4 : Tok} {tp : Addr} {v1 v2 : Value}
    (hf : env.frame = some L) (hke : env.scope.kind = .function) (hdp : dp ≤ 800) (hun : un ≤ 8000)
    (B : Below A₀ base outer h₀) (F : Fr h₀ L s.heap m) (X : (hd.heap_1 w.params).In h₀) (N : News h₀ L s.heap news) (T : Top p loose mean mg mb h₀)
    (ht : (tp, tup3 v1 v2 (.ref z)) ∈ news)
    (hz : (z, instObj 530 dz) ∈ news) (hdz : (dz, fqD w.params q j c1 c2 c3 c4) ∈ news) (hq : 0 < q)
    (hret : ∀ (h' : Heap) (tk' : Nat), Fr h₀ L h' m → News h₀ L h' news → Q (.bool (decide (j = 0))) { s with heap := h', toks := tk' }) :
    wpAny (model PR w) (ar dp un gd env outer) (call (.ref 541) [.ref tp]) Q E s := by
  refine wpAny_call ?_
  k_dflt k_enter
  k_steps
  all_goals (refine hret _ _ (by k_asm) (cb_drop (by k_asm) (by repeat (first | exact (fun _ h9 => h9) | refine sub_tail ?_))))
theorem lay49 : True := by
  k_with "m:call ref" => ((with_reducible show wpAny _ _ (call (Value.ref 541) [Value.ref _] _) _ _ _); k_dflt (refine' opt_inf_c ?qFq7 ?qKq7 ?qDq7 ?qUq7 ?q1q7 ?q2q7 ?q3q7 ?q4q7 ?q5q7 ?rtq7 ?rzq7 ?rdzq7 ?rqq7 ?_; (k_extra "std"); (case rtq7 => k_mem); (case rzq7 => k_mem); (case rdzq7 => k_mem); (case rqq7 => (first | assumption | omega)); k_whole; intro h'q tk'q F'q N'q; (try dsimp only); (try k_sweep)))
  trivial
noncomputable def onCurveOpt (q x y z b : Int) : Bool := decide (((y * y % q * z) % q - x * x * x % q) % q = (b * (z * z * z % q)) % q)
set_option maxRecDepth 100000 in
set_option maxHeartbeats 8000000 in
theorem opt_on_c {x dx : Addr} {q n : Int} {a1 a2 a3 a4 : Tok} {y dy : Addr} {k : Int} {b1 b2 b3 b4 : Tok} {z dz : Addr} {j : Int} {c1 c2 c3 c4 : Tok} {b db : Addr} {i : Int} {d1 d2 d3 d4 : Tok} {tp : Addr}
    (hf : env.frame = some L) (hke : env.scope.kind = .function) (hdp : dp ≤ 780) (hun : un ≤ 7800)
    (B : Below A₀ base outer h₀) (F : Fr h₀ L s.heap m) (X : (hd.heap_1 w.params).In h₀) (N : News h₀ L s.heap news) (T : Top p loose mean mg mb h₀)
    (ht : (tp, tup3 (.ref x) (.ref y) (.ref z)) ∈ news)
    (hx : (x, instObj 530 dx) ∈ news) (hdx : (dx, fqD w.params q n a1 a2 a3 a4) ∈ news)
    (hy : (y, instObj 530 dy) ∈ news) (hdy : (dy, fqD w.params q k b1 b2 b3 b4) ∈ news)
    (hz : (z, instObj 530 dz) ∈ news) (hdz : (dz, fqD w.params q j c1 c2 c3 c4) ∈ news)
    (hb : (b, instObj 530 db) ∈ news) (hdb : (db, fqD w.params q i d1 d2 d3 d4) ∈ news)
    (hq : 0 < q) (hq2 : q ≤ 4000000000000000000) (hn0 : 0 ≤ n) (hn1 : n < q) (hk0 : 0 ≤ k) (hk1 : k < q) (hj0 : 0 < j) (hj1 : j < q) (hi0 : 0 ≤ i) (hi1 : i < q)
    (hret : ∀ (h' : Heap) (tk' : Nat), Fr h₀ L h' m → News h₀ L h' news → Q (.bool (onCurveOpt q n k j i)) { s with heap := h', toks := tk' }) :
    wpAny (model PR w) (ar dp un gd env outer) (call (.ref 548) [.ref tp, .ref b]) Q E s := by
  have hj3 : 0 ≤ j := Int.le_of_lt hj0
  refine wpAny_call ?_
  k_dflt k_enter
  k_steps
  all_goals (refine ret_bool rfl (hret _ _ (by k_asm) (cb_drop (by k_asm) (by repeat (first | exact (fun _ h9 => h9) | refine sub_tail ?_)))))
theorem lay50 : True := by
  k_with "m:call ref" => ((with_reducible show wpAny _ _ (call (Value.ref 548) [Value.ref _, Value.ref _] _) _ _ _); k_dflt (refine' opt_on_c ?qFq7 ?qKq7 ?qDq7 ?qUq7 ?q1q7 ?q2q7 ?q3q7 ?q4q7 ?q5q7 ?rtq7 ?rxq7 ?rdxq7 ?ryq7 ?rdyq7 ?rzq7 ?rdzq7 ?rbq7 ?rdbq7 ?rqq7 ?rq2q7 ?rn0q7 ?rn1q7 ?rk0q7 ?rk1q7 ?rj0q7 ?rj1q7 ?ri0q7 ?ri1q7 ?_; (k_extra "std"); (case rtq7 => k_mem); (case rxq7 => k_mem); (case rdxq7 => k_mem); (case ryq7 => k_mem); (case rdyq7 => k_mem); (case rzq7 => k_mem); (case rdzq7 => k_mem); (case rbq7 => k_mem); (case rdbq7 => k_mem); (case rqq7 => (first | assumption | omega)); (case rq2q7 => (first | assumption | omega)); (case rn0q7 => (first | assumption | omega)); (case rn1q7 => (first | assumption | omega)); (case rk0q7 => (first | assumption | omega)); (case rk1q7 => (first | assumption | omega)); (case rj0q7 => (first | assumption | exact emod_pos (by omega) (by omega) | omega)); (case rj1q7 => (first | assumption | omega)); (case ri0q7 => (first | assumption | omega)); (case ri1q7 => (first | assumption | omega)); k_whole; intro h'q tk'q F'q N'q; (try dsimp only); (try k_sweep)))
  trivial
end

-- piece inverse
theorem inv_m {u i : Int} : 1 < 2 + (if u < 0 then -u else u).fmod 1000000 * [1, 1000003, 998244353].getD (i.fmod 3).toNat 0 ∧ 2 + (if u < 0 then -u else u).fmod 1000000 * [1, 1000003, 998244353].getD (i.fmod 3).toNat 0 ≤ 2000000000000000 := by
  generalize (if u < 0 then -u else u) = v
  have h1 := Int.fmod_nonneg_of_pos v (show (0 : Int) < 1000000 by decide)
  have h2 := Int.fmod_lt_of_pos v (show (0 : Int) < 1000000 by decide)
  have h3 := Int.fmod_nonneg_of_pos i (show (0 : Int) < 3 by decide)
  have h4 := Int.fmod_lt_of_pos i (show (0 : Int) < 3 by decide)
  have h5 : i.fmod 3 = 0 ∨ i.fmod 3 = 1 ∨ i.fmod 3 = 2 := by omega
  generalize v.fmod 1000000 = y at *
  rcases h5 with h | h | h <;> rw [h] <;> simp <;> omega
section
variable {w : World} {p : Program} {loose : List Str} {mean : ExcName → Option Value} {mg mb : Str → Option Value} {dp un : Nat} {gd : Option (List Code)} {A₀ : Around} {env : Env} {outer : List Env} {base h₀ : Heap} {L : Addr} {m : Str → Option Value} {s : Shared} {Q E : Value → Shared → Prop} {news : List (Addr × Obj)}
theorem lay51 : True := by
  k_with "m:storeName" => ((with_reducible show wpAny _ _ (storeName _ (PySem.Str.ofString "m") (Value.int (2 + _) _)) _ _ _); k_dflt (refine gen_store (fun v'q => 1 < v'q ∧ v'q ≤ 2000000000000000) ?hpq7 ?_; (case hpq7 => exact inv_m)); rintro v'q ⟨g1q, g2q⟩)
  k_with "m:storeName" => ((with_reducible show wpAny _ _ (storeName _ (PySem.Str.ofString "a") (Value.int (lawAt _ _ * _) _)) _ _ _); k_dflt (refine gen_store (fun _ => True) trivial ?_); intro v'q _)
  trivial
set_option maxRecDepth 100000 in
set_option maxHeartbeats 8000000 in
theorem inverse_c {l : Addr} {vs : List Value} {ns : List Int}
    (hf : env.frame = some L) (hke : env.scope.kind = .function) (hdp : dp ≤ 800) (hun : un ≤ 8000)
    (B : Below A₀ base outer h₀) (F : Fr h₀ L s.heap m) (X : (hd.heap_1 w.params).In h₀) (N : News h₀ L s.heap news) (T : Top p loose mean mg mb h₀)
    (hl : base.IsList l vs.toArray) (hi : IntsAre vs ns) (hns : ns.length ≤ 63)
    (hret : ∀ (h' : Heap) (tk' : Nat), Fr h₀ L h' m → News h₀ L h' news → Q (.bool true) { s with heap := h', toks := tk' }) :
    wpAny (model PR w) (ar dp un gd env outer) (call (.ref 633) [.ref l]) Q E s := by
  refine wpAny_call ?_
  k_dflt k_enter
  k_steps
  all_goals (refine ret_bool ?_ (hret _ _ (by k_asm) (cb_drop (by k_asm) (by repeat (first | exact (fun _ h9 => h9) | refine sub_tail ?_)))); first | rfl | (exfalso; omega) | (simp only [Bool.and_eq_true, Bool.or_eq_true, decide_eq_true_eq, bne_iff_ne, ne_eq, beq_iff_eq]; omega))
theorem lay52 : True := by
  k_with "m:call ref" => ((with_reducible show wpAny _ _ (call (Value.ref 633) [Value.ref _] _) _ _ _); k_dflt (refine' inverse_c ?qFq7 ?qKq7 ?qDq7 ?qUq7 ?q1q7 ?q2q7 ?q3q7 ?q4q7 ?q5q7 ?rlq7 ?riq7 ?rnq7 ?_; (k_extra "std"); (case rlq7 => k_asm); (case riq7 => k_asm); (case rnq7 => (first | assumption | omega)); k_whole; intro h'q tk'q F'q N'q; (try dsimp only); (try k_sweep)))
  trivial
end

-- piece equation
theorem curve_opt {p x y b s : Int} (hp : 2 ≤ p) (hg : Int.gcd s p = 1) : onCurveOpt p (x * s % p) (y * s % p) (s % p) (b % p) = ((y * y - x * x * x - b).fmod p == 0) := by
  rw [Int.fmod_eq_emod_of_nonneg _ (by omega)]
  unfold onCurveOpt
  have hX : Cg p (x * s % p) (x * s) := .mod
  have hY : Cg p (y * s % p) (y * s) := .mod
  have hZ : Cg p (s % p) s := .mod
  have hL : Cg p (((y * s % p) * (y * s % p) % p * (s % p)) % p - (x * s % p) * (x * s % p) * (x * s % p) % p) (s * (s * (s * (y * y - x * x * x)))) := by
    refine (Cg.sub (Cg.mod.trans (Cg.mul (Cg.mod.trans (Cg.mul hY hY)) hZ)) (Cg.mod.trans (Cg.mul (Cg.mul hX hX) hX))).trans (Cg.of_eq ?_)
    grind
  have hR : Cg p (b % p * (s % p * (s % p) * (s % p) % p)) (s * (s * (s * b))) := by
    refine (Cg.mul Cg.mod (Cg.mod.trans (Cg.mul (Cg.mul hZ hZ) hZ))).trans (Cg.of_eq ?_)
    grind
  have key : (((y * s % p) * (y * s % p) % p * (s % p)) % p - (x * s % p) * (x * s % p) * (x * s % p) % p) % p = (b % p * (s % p * (s % p) * (s % p) % p)) % p ↔ (y * y - x * x * x - b) % p = 0 := by
    rw [Cg.iff]
    constructor
    · intro h
      have h2 := (hL.symm.trans h).trans hR
      unfold Cg at h2
      rw [← Int.mul_sub, ← Int.mul_sub, ← Int.mul_sub] at h2
      exact Int.emod_eq_zero_of_dvd (dvd_coprime hg (dvd_coprime hg (dvd_coprime hg h2)))
    · intro h
      have h2 : Cg p (s * (s * (s * (y * y - x * x * x)))) (s * (s * (s * b))) := by
        unfold Cg
        rw [← Int.mul_sub, ← Int.mul_sub, ← Int.mul_sub]
        exact Int.dvd_mul_of_dvd_right (Int.dvd_mul_of_dvd_right (Int.dvd_mul_of_dvd_right (Int.dvd_of_emod_eq_zero h)))
      exact (hL.trans h2).trans hR.symm
  by_cases h : (y * y - x * x * x - b) % p = 0
  · rw [decide_eq_true (key.mpr h), h]; rfl
  · rw [decide_eq_false (fun k => h (key.mp k))]; exact (beq_false_of_ne h).symm
theorem eq_end1 {p x y b : Int} (h : (onCurve p (x % p) (y % p) (b % p) != ((y * y - x * x * x - b).fmod p == 0)) = true) (hx0 : 0 ≤ x) (hx1 : x < p) (hy0 : 0 ≤ y) (hy1 : y < p) (hb0 : 0 ≤ b) (hb1 : b < p) : False := by
  have e : onCurve p (x % p) (y % p) (b % p) = ((y * y - x * x * x - b).fmod p == 0) := by
    rw [Int.emod_eq_of_lt hx0 hx1, Int.emod_eq_of_lt hy0 hy1, Int.emod_eq_of_lt hb0 hb1, Int.fmod_eq_emod_of_nonneg _ (by omega)]
    rfl
  rw [e] at h
  simp at h
theorem eq_end2 {p x y b s : Int} (hp : 2 ≤ p) (hg : Int.gcd s p = 1) : (onCurveOpt p (x * s % p) (y * s % p) (s % p) (b % p) == ((y * y - x * x * x - b).fmod p == 0)) = true := by
  rw [curve_opt hp hg]; exact beq_self_eq_true _
section
variable {M : Model} {A : Around} {env : Env} {n : Str} {t : Tok} {Q : Unit → Shared → Prop} {E : Value → Shared → Prop} {s : Shared}
theorem gen_fmod {u p : Int} (hp : 0 < p) (h : ∀ v', 0 ≤ v' → v' < p → wpAny M A (storeName env n (.int v' t)) Q E s) : wpAny M A (storeName env n (.int (u.fmod p) t)) Q E s :=
  h _ (Int.fmod_nonneg_of_pos _ hp) (Int.fmod_lt_of_pos _ hp)
theorem gen_p {u : Int} (h1 : -1000000000 < u) (h2 : u < 1000000000) (h : ∀ v', 2 ≤ v' → v' ≤ 1000000001 → wpAny M A (storeName env n (.int v' t)) Q E s) : wpAny M A (storeName env n (.int (2 + if u < 0 then -u else u) t)) Q E s :=
  h _ (by split <;> omega) (by split <;> omega)
theorem gen_s {u p : Int} (hp : 2 ≤ p) (h : ∀ v', 1 ≤ v' → v' < p → wpAny M A (storeName env n (.int v' t)) Q E s) : wpAny M A (storeName env n (.int (1 + u.fmod (p - 1)) t)) Q E s :=
  h _ (by have := Int.fmod_nonneg_of_pos u (show 0 < p - 1 by omega); omega) (by have := Int.fmod_lt_of_pos u (show 0 < p - 1 by omega); omega)
theorem emod_nn {s p : Int} (h : 2 ≤ p) : 0 ≤ s % p := Int.emod_nonneg _ (by omega)
theorem emod_ub {s p : Int} (h : 2 ≤ p) : s % p < p := Int.emod_lt_of_pos _ (by omega)
end
section
variable {w : World} {p : Program} {loose : List Str} {mean : ExcName → Option Value} {mg mb : Str → Option Value} {dp un : Nat} {gd : Option (List Code)} {A₀ : Around} {env : Env} {outer : List Env} {base h₀ : Heap} {L : Addr} {m : Str → Option Value} {s : Shared} {Q E : Value → Shared → Prop} {news : List (Addr × Obj)}
theorem news_tl7 {h₀ h : Heap} {L : Addr} {a : Addr × Obj} {r : List (Addr × Obj)} (N : News h₀ L h (a :: r)) : News h₀ L h r := fun p hp => N p (.tail _ hp)
theorem lay53 : True := by
  k_with "m:storeName" => ((with_reducible show wpAny _ _ (storeName _ _ (Value.int (Int.fmod (lawAt _ _) _) _)) _ _ _); k_dflt (refine gen_fmod (by omega) ?_); intro v'q g1q g2q)
  k_with "m:storeName" => ((with_reducible show wpAny _ _ (storeName _ (PySem.Str.ofString "p") (Value.int (2 + _) _)) _ _ _); k_dflt (refine gen_p (by assumption) (by assumption) ?_); intro v'q g1q g2q)
  k_with "m:storeName" => ((with_reducible show wpAny _ _ (storeName _ (PySem.Str.ofString "s") (Value.int (1 + _) _)) _ _ _); k_dflt (refine gen_s (by assumption) ?_); intro v'q g1q g2q; (rename News _ _ _ _ => N9q); (have N8q := (news_tl7 (news_tl7 (news_tl7 (news_tl7 (news_tl7 (news_tl7 (news_tl7 N9q)))))))); clear N9q)
  trivial
set_option maxRecDepth 100000 in
set_option maxHeartbeats 8000000 in
theorem equation_c {l : Addr} {vs : List Value} {ns : List Int}
    (hf : env.frame = some L) (hke : env.scope.kind = .function) (hdp : dp ≤ 700) (hun : un ≤ 7000)
    (B : Below A₀ base outer h₀) (F : Fr h₀ L s.heap m) (X : (hd.heap_1 w.params).In h₀) (N : News h₀ L s.heap news) (T : Top p loose mean mg mb h₀)
    (hl : base.IsList l vs.toArray) (hi : IntsAre vs ns) (hns : ns.length ≤ 63)
    (hret : ∀ (h' : Heap) (tk' : Nat), Fr h₀ L h' m → News h₀ L h' news → Q (.bool true) { s with heap := h', toks := tk' }) :
    wpAny (model PR w) (ar dp un gd env outer) (call (.ref 597) [.ref l]) Q E s := by
  refine wpAny_call ?_
  k_dflt k_enter
  k_steps
  · exact (eq_end1 (by assumption) (by assumption) (by assumption) (by assumption) (by assumption) (by assumption) (by assumption)).elim
  · refine ret_bool (eq_end2 (by assumption) (Int.one_gcd)) (hret _ _ (by k_asm) (cb_drop (by k_asm) (by repeat (first | exact (fun _ h9 => h9) | refine sub_tail ?_))))
  · refine ret_bool (eq_end2 (by assumption) (by omega)) (hret _ _ (by k_asm) (cb_drop (by k_asm) (by repeat (first | exact (fun _ h9 => h9) | refine sub_tail ?_))))
theorem lay54 : True := by
  k_with "m:call ref" => ((with_reducible show wpAny _ _ (call (Value.ref 597) [Value.ref _] _) _ _ _); k_dflt (refine' equation_c ?qFq7 ?qKq7 ?qDq7 ?qUq7 ?q1q7 ?q2q7 ?q3q7 ?q4q7 ?q5q7 ?rlq7 ?riq7 ?rnq7 ?_; (k_extra "std"); (case rlq7 => k_asm); (case riq7 => k_asm); (case rnq7 => (first | assumption | omega)); k_whole; intro h'q tk'q F'q N'q; (try dsimp only); (try k_sweep)))
  trivial
end

-- piece flags
theorem fl383 {z X k : Int} (hz : z = X + k * 4925250774549309901534880012517951725634967408808180833493536675530715221437151326426783281860614455100828498788352) (h0 : 0 ≤ X) (h1 : X < 4925250774549309901534880012517951725634967408808180833493536675530715221437151326426783281860614455100828498788352) (hk : k = 4 ∨ k = 5) :
    (Builtin.bitAnd (z.fdiv (2 ^ Int.toNat 383)) 1 != 0) = true := by
  have e : (2 : Int) ^ Int.toNat 383 = 19701003098197239606139520050071806902539869635232723333974146702122860885748605305707133127442457820403313995153408 := by decide +kernel
  rw [e, Int.fdiv_eq_ediv_of_nonneg _ (by decide), bitAnd_m1]
  have : z / 19701003098197239606139520050071806902539869635232723333974146702122860885748605305707133127442457820403313995153408 = 1 := by omega
  rw [this]; rfl
theorem fl382 {z X k : Int} (hz : z = X + k * 4925250774549309901534880012517951725634967408808180833493536675530715221437151326426783281860614455100828498788352) (h0 : 0 ≤ X) (h1 : X < 4925250774549309901534880012517951725634967408808180833493536675530715221437151326426783281860614455100828498788352) (hk : k = 4 ∨ k = 5) :
    (Builtin.bitAnd (z.fdiv (2 ^ Int.toNat 382)) 1 != 0) = false := by
  have e : (2 : Int) ^ Int.toNat 382 = 9850501549098619803069760025035903451269934817616361666987073351061430442874302652853566563721228910201656997576704 := by decide +kernel
  rw [e, Int.fdiv_eq_ediv_of_nonneg _ (by decide), bitAnd_m1]
  have : z / 9850501549098619803069760025035903451269934817616361666987073351061430442874302652853566563721228910201656997576704 = 2 := by omega
  rw [this]; rfl
theorem fl381 {z X k : Int} (hz : z = X + k * 4925250774549309901534880012517951725634967408808180833493536675530715221437151326426783281860614455100828498788352) (h0 : 0 ≤ X) (h1 : X < 4925250774549309901534880012517951725634967408808180833493536675530715221437151326426783281860614455100828498788352) (hk : k = 4 ∨ k = 5) :
    (Builtin.bitAnd (z.fdiv (2 ^ Int.toNat 381)) 1 != 0) = decide (k = 5) := by
  have e : (2 : Int) ^ Int.toNat 381 = 4925250774549309901534880012517951725634967408808180833493536675530715221437151326426783281860614455100828498788352 := by decide +kernel
  rw [e, Int.fdiv_eq_ediv_of_nonneg _ (by decide), bitAnd_m1]
  have : z / 4925250774549309901534880012517951725634967408808180833493536675530715221437151326426783281860614455100828498788352 = k := by omega
  rw [this]
  rcases hk with rfl | rfl <;> rfl
theorem tup3_eq {h₀ h : Heap} {L D : Addr} {news : List (Addr × Obj)} {a b c a' b' c' : Bool} (N : News h₀ L h ((D, tup3 (.bool a) (.bool b) (.bool c)) :: news)) (e1 : a = a') (e2 : b = b') (e3 : c = c') : News h₀ L h ((D, tup3 (.bool a') (.bool b') (.bool c')) :: news) := by subst e1 e2 e3; exact N
section
variable {w : World} {p : Program} {loose : List Str} {mean : ExcName → Option Value} {mg mb : Str → Option Value} {dp un : Nat} {gd : Option (List Code)} {A₀ : Around} {env : Env} {outer : List Env} {base h₀ : Heap} {L : Addr} {m : Str → Option Value} {s : Shared} {Q E : Value → Shared → Prop} {news : List (Addr × Obj)}
set_option maxRecDepth 100000 in
set_option maxHeartbeats 8000000 in
theorem flags_c {z xx k : Int} {tz : Tok}
    (hf : env.frame = some L) (hke : env.scope.kind = .function) (hdp : dp ≤ 900) (hun : un ≤ 9000)
    (B : Below A₀ base outer h₀) (F : Fr h₀ L s.heap m) (X : (hd.heap_1 w.params).In h₀) (N : News h₀ L s.heap news) (T : Top p loose mean mg mb h₀)
    (hz : z = xx + k * 4925250774549309901534880012517951725634967408808180833493536675530715221437151326426783281860614455100828498788352) (h0 : 0 ≤ xx) (h1 : xx < 4925250774549309901534880012517951725634967408808180833493536675530715221437151326426783281860614455100828498788352) (hk : k = 4 ∨ k = 5)
    (hret : ∀ (D : Addr) (h' : Heap) (tk' : Nat), Fr h₀ L h' m → News h₀ L h' ((D, tup3 (.bool true) (.bool false) (.bool (decide (k = 5)))) :: news) → Q (.ref D) { s with heap := h', toks := tk' }) :
    wpAny (model PR w) (ar dp un gd env outer) (call (.ref 28) [.int z tz]) Q E s := by
  refine wpAny_call ?_
  k_dflt k_enter
  k_steps
  exact hret _ _ _ (by k_asm) (tup3_eq (by k_asm) (fl383 hz h0 h1 hk) (fl382 hz h0 h1 hk) (fl381 hz h0 h1 hk))
theorem lay55 : True := by
  k_with "m:call ref" => ((with_reducible show wpAny _ _ (call (Value.ref 28) [Value.int _ _] _) _ _ _); k_dflt (refine' flags_c ?qFq7 ?qKq7 ?qDq7 ?qUq7 ?q1q7 ?q2q7 ?q3q7 ?q4q7 ?q5q7 ?rzq7 ?r0q7 ?r1q7 ?rkq7 ?_; (k_extra "std"); (case rzq7 => assumption); (case r0q7 => (first | assumption | omega)); (case r1q7 => (first | assumption | omega)); (case rkq7 => assumption); k_whole; intro D'q h'q tk'q F'q N'q; (try dsimp only); (try k_sweep)))
  trivial
end

-- piece read
section
variable {M : Model} {A : Around} {env : Env} {n : Str} {t : Tok} {Q : Unit → Shared → Prop} {E : Value → Shared → Prop} {s : Shared}
theorem store_x {z X k : Int} (hz : z = X + k * 4925250774549309901534880012517951725634967408808180833493536675530715221437151326426783281860614455100828498788352) (h0 : 0 ≤ X) (h1 : X < 4925250774549309901534880012517951725634967408808180833493536675530715221437151326426783281860614455100828498788352)
    (h : wpAny M A (storeName env n (.int X t)) Q E s) : wpAny M A (storeName env n (.int (z.fmod 4925250774549309901534880012517951725634967408808180833493536675530715221437151326426783281860614455100828498788352) t)) Q E s := by
  have e : z.fmod 4925250774549309901534880012517951725634967408808180833493536675530715221437151326426783281860614455100828498788352 = X := by
    rw [Int.fmod_eq_emod_of_nonneg _ (by decide)]; omega
  rw [e]; exact h
end
noncomputable def yI (q c : Int) : Int := c ^ ((q + 1) / 4).toNat % q
noncomputable def readI (xx bn q k : Int) : Option Int :=
  if q ≤ xx then none
  else if yI q ((xx * xx * xx + bn) % q) * yI q ((xx * xx * xx + bn) % q) % q ≠ (xx * xx * xx + bn) % q then none
  else some (if yI q ((xx * xx * xx + bn) % q) * 2 / q = (if k = 5 then 1 else 0) then yI q ((xx * xx * xx + bn) % q) else (q - yI q ((xx * xx * xx + bn) % q)) % q)
theorem yI_bd {q c : Int} (hq : 0 < q) : 0 ≤ yI q c ∧ yI q c < q := ⟨Int.emod_nonneg _ (Int.ne_of_gt hq), Int.emod_lt_of_pos _ hq⟩
theorem cub_e {q xx bn : Int} (hq : 0 < q) : (xx ^ Int.toNat 3 + bn).fmod q = (xx * xx * xx + bn) % q := by
  rw [Int.fmod_eq_emod_of_nonneg _ (Int.le_of_lt hq)]
  have : xx ^ Int.toNat 3 = xx * xx * xx := by
    show xx ^ 3 = _
    rw [Int.pow_succ, Int.pow_succ, Int.pow_succ, Int.pow_zero, Int.one_mul]
  rw [this]
theorem yI_e {q xx bn : Int} (hq : 0 < q) : ((xx ^ Int.toNat 3 + bn).fmod q % q) ^ ((q + 1).fdiv 4).toNat % q = yI q ((xx * xx * xx + bn) % q) := by
  rw [cub_e hq, Int.emod_emod, Int.fdiv_eq_ediv_of_nonneg _ (by decide)]; rfl
theorem sq_e {q xx bn : Int} (hq : 0 < q) : (((xx ^ Int.toNat 3 + bn).fmod q % q) ^ ((q + 1).fdiv 4).toNat % q % q) ^ Int.toNat 2 % q = yI q ((xx * xx * xx + bn) % q) * yI q ((xx * xx * xx + bn) % q) % q := by
  rw [yI_e hq]
  have h := yI_bd (c := (xx * xx * xx + bn) % q) hq
  rw [Int.emod_eq_of_lt h.1 h.2]
  show (_ : Int) ^ 2 % q = _
  rw [Int.pow_succ, Int.pow_succ, Int.pow_zero, Int.one_mul]
theorem rd_none1 {xx bn q k : Int} (h : q ≤ xx) : readI xx bn q k = none := if_pos h
theorem rd_none2 {xx bn q k : Int} (hq : 0 < q) (h : ¬ (((xx ^ Int.toNat 3 + bn).fmod q % q) ^ ((q + 1).fdiv 4).toNat % q % q) ^ Int.toNat 2 % q = (xx ^ Int.toNat 3 + bn).fmod q) : readI xx bn q k = none := by
  rw [sq_e hq, cub_e hq] at h
  unfold readI
  by_cases h1 : q ≤ xx
  · rw [if_pos h1]
  · rw [if_neg h1, if_pos h]
theorem rd_some {xx bn q k : Int} (hq : 0 < q) (h1 : ¬ q ≤ xx) (h2 : (((xx ^ Int.toNat 3 + bn).fmod q % q) ^ ((q + 1).fdiv 4).toNat % q % q) ^ Int.toNat 2 % q = (xx ^ Int.toNat 3 + bn).fmod q) :
    readI xx bn q k = some (if (((xx ^ Int.toNat 3 + bn).fmod q % q) ^ ((q + 1).fdiv 4).toNat % q * 2).fdiv q = (if decide (k = 5) = true then 1 else 0) then ((xx ^ Int.toNat 3 + bn).fmod q % q) ^ ((q + 1).fdiv 4).toNat % q % q else (q - ((xx ^ Int.toNat 3 + bn).fmod q % q) ^ ((q + 1).fdiv 4).toNat % q) % q) := by
  rw [sq_e hq, cub_e hq] at h2
  have h := yI_bd (c := (xx * xx * xx + bn) % q) hq
  unfold readI
  rw [if_neg h1, if_neg (not_not_intro h2), yI_e hq, Int.emod_eq_of_lt h.1 h.2, Int.fdiv_eq_ediv_of_nonneg _ (Int.le_of_lt hq)]
  by_cases hk : k = 5 <;> simp [hk]
theorem rd_some1 {xx bn q k : Int} (hq : 0 < q) (h1 : ¬ q ≤ xx) (h2 : (((xx ^ Int.toNat 3 + bn).fmod q % q) ^ ((q + 1).fdiv 4).toNat % q % q) ^ Int.toNat 2 % q = (xx ^ Int.toNat 3 + bn).fmod q)
    (h3 : (((xx ^ Int.toNat 3 + bn).fmod q % q) ^ ((q + 1).fdiv 4).toNat % q * 2).fdiv q = if decide (k = 5) = true then 1 else 0) : readI xx bn q k = some (((xx ^ Int.toNat 3 + bn).fmod q % q) ^ ((q + 1).fdiv 4).toNat % q % q) := by
  rw [rd_some hq h1 h2, if_pos h3]
theorem rd_some2 {xx bn q k : Int} (hq : 0 < q) (h1 : ¬ q ≤ xx) (h2 : (((xx ^ Int.toNat 3 + bn).fmod q % q) ^ ((q + 1).fdiv 4).toNat % q % q) ^ Int.toNat 2 % q = (xx ^ Int.toNat 3 + bn).fmod q)
    (h3 : ¬ (((xx ^ Int.toNat 3 + bn).fmod q % q) ^ ((q + 1).fdiv 4).toNat % q * 2).fdiv q = if decide (k = 5) = true then 1 else 0) : readI xx bn q k = some ((q - ((xx ^ Int.toNat 3 + bn).fmod q % q) ^ ((q + 1).fdiv 4).toNat % q) % q) := by
  rw [rd_some hq h1 h2, if_neg h3]
theorem tup3_int {h₀ h : Heap} {L D : Addr} {news news' : List (Addr × Obj)} {a b c a' c' : Int} {t1 t2 t3 : Tok} (N : News h₀ L h news') (hm : (D, tup3 (.int a t1) (.int b t2) (.int c t3)) ∈ news') (hs : ∀ p ∈ news, p ∈ news') (e1 : a = a') (e2 : c = c') :
    News h₀ L h ((D, tup3 (.int a' t1) (.int b t2) (.int c' t3)) :: news) := by subst e1 e2; exact cb_drop N (sub_cons hm hs)
section
variable {prog : Program} {w : World} {A₀ A : Around} {s : Shared} {base h₀ g₀ : Heap} {outer : List Env} {L a : Addr} {m : Str → Option Value} {cn : Str} {cs : Scope} {ccd : Value} {news : List (Addr × Obj)} {K : Frag} {p : Program} {loose : List Str} {mean : ExcName → Option Value} {mg mb : Str → Option Value}
    {R : Result → Shared → Prop} {name qual : Str} {params : Arguments} {body : List Stmt} {scope : Scope} {dV kV doc pm cdv ct oc : Value} {an od : Option Addr} {osl : Array (Option Value)} {f : Addr} {args : Args} {binds : List (Str × Value)}
theorem code_defSB (B : Below A₀ base outer h₀) (F : Fr h₀ L s.heap m) (X₀ : K.In h₀) (N : News h₀ L s.heap news) (T : Top p loose mean mg mb h₀) (XB : K.In base) (TB : Top p loose mean mg mb base) (D : KtsDicts (outer.filterMap (·.frame)) h₀)
    (T0 : KtsTurn (outer.filterMap (·.frame)) g₀ h₀) (hA : A.frames = some (envOf cn cs L a ccd :: outer))
    (ho : K.lookup f = some ⟨oc, od, .func (fnOf name qual params body scope dV kV doc pm an cdv ct), osl⟩) (hcd : codeIn K cdv qual = true) (hroom : A.depth < recursionLimit)
    (_hb : BindsP params.args args.pos binds) (hbind : BindsTo s (fnOf name qual params body scope dV kV doc pm an cdv ct) args binds) (hd : distinct (binds.map (·.1)) = true) (hloc : ∀ y ∈ binds, scope.names.lookup y.1 = some .local)
    (h : ∀ g L' h₁, Fr h₀ L g m → Fr g L' h₁ (bindMap binds) → News g L' h₁ news → Below A base (envOf cn cs L a ccd :: outer) g → K.In g → Top p loose mean mg mb g → KtsDicts ((envOf cn cs L a ccd :: outer).filterMap (·.frame)) g →
      wpAny (model prog w) (A.deeper (envOf qual scope L' f cdv)) (execs body (envOf qual scope L' f cdv))
        (fun fl s' => LeaveS ((envOf cn cs L a ccd :: outer).filterMap (·.frame)) A₀ base outer K p loose mean mg mb g₀ h₀ L m g R (match fl with | .ret v => v | _ => .none) s')
        (fun e s' => wpAny (model prog w) (A.deeper (envOf qual scope L' f cdv)) (leaving (envOf qual scope L' f cdv) e) (fun _ s'' => R (.error e) s'') (fun e' s'' => R (.error e') s'') s')
        { s with heap := h₁, toks := s.toks + binds.length })
    (hck : cs.kind = .function) (hco : scope.isCoroutine = false) (hgen : scope.isGenerator = false) (hk : scope.kind = .function)
    (hcell : ∀ x ∈ scope.names, x.2 ≠ .cell) : codeAny (model prog w) A (.call (.ref f) args) R s :=
  have e : (fun y => binds.reverse.lookup y) = bindMap binds := funext (bindMap_eq binds (distinct_nodup _ hd))
  code_defS B F X₀ N T XB TB D T0 hA ho hcd hroom hbind hloc (fun g L' h₁ FG F' => h g L' h₁ FG (e ▸ F')) hck hco hgen hk hcell
end
section
variable {w : World} {p : Program} {loose : List Str} {mean : ExcName → Option Value} {mg mb : Str → Option Value} {dp un : Nat} {gd : Option (List Code)} {A₀ : Around} {env : Env} {outer : List Env} {base h₀ : Heap} {L : Addr} {m : Str → Option Value} {s : Shared} {Q E : Value → Shared → Prop} {news : List (Addr × Obj)}
variable {cn : Str} {cs : Scope} {a : Addr} {ccd : Value} {g₀ : Heap}
theorem lay56 : True := by
  k_with "m.kts_go" => (refine' code_defSB ?k1q7 ?k2q7 ?k3q7 ?k4q7 ?k5q7 ?XBq7 ?TBq7 ?Dq7 ?T0q7 ?kAq7 ?k6q7 ?k7q7 ?k8q7 ?kPq7 ?k9q7 ?kDq7 ?kBq7 ?_ ?cKq7 ?c2q7 ?c3q7 ?c4q7 ?c5q7; (case kAq7 => exact rfl); (case k1q7 => k_asm); (case k2q7 => k_asm); (case XBq7 => assumption); (case TBq7 => assumption); (case Dq7 => assumption); (case T0q7 => first | assumption | exact KtsTurn.refl); (case k3q7 => k_asm); (case k4q7 => k_asm); (case k5q7 => k_asm); (case k6q7 => k_is); (case k7q7 => k_is); (case k8q7 => k_room); (case kPq7 => first | exact BindsP.cons (BindsP.cons BindsP.nil)); (case k9q7 => first | exact BindsTo.of_eq rfl); (case kDq7 => kernel_rfl); (case kBq7 => exact locs rfl); (case cKq7 => first | assumption | exact rfl); (case c2q7 => exact rfl); (case c3q7 => exact rfl); (case c4q7 => exact rfl); (case c5q7 => decide); k_whole; intro g'q L'q h'q FG'q F'q N'q B'q X'q T'q D'q; (try dsimp only [bindMap, List.length_cons, List.length_nil] at F'q ⊢); (try k_lift B'q); (first | refine let q'q : Flow → Shared → Prop := _; let e'q : Value → Shared → Prop := _; let o'q : Around := _; let v'q : Env := _; let a'q : Around := Around.deeper o'q v'q; let s'q : Shared := _; (?_ : wpAny _ a'q (execs _ v'q) q'q e'q s'q) | skip))
  k_with "m:storeName" => ((with_reducible show wpAny _ _ (storeName _ (PySem.Str.ofString "x") (Value.int (Int.fmod _ _) _)) _ _ _); k_dflt (refine store_x (by assumption) (by assumption) (by assumption) ?_))
  k_with "m:exec Raise some none" => (k_here; (with_reducible show wpAny _ _ (exec (Stmt.Raise (some _) none _) _) _ _ _); (with_reducible refine Raise_new rfl ?_))
  trivial
set_option maxRecDepth 100000 in
set_option maxHeartbeats 8000000 in
theorem read_c {z xx k : Int} {tz : Tok} {b db : Addr} {q bn : Int} {a1 a2 a3 a4 : Tok}
    (hf : (envOf cn cs L a ccd).frame = some L) (hke : (envOf cn cs L a ccd).scope.kind = .function) (hdp : dp ≤ 800) (hun : un ≤ 8000)
    (B : Below A₀ base outer h₀) (F : Fr h₀ L s.heap m) (X : (hd.heap_1 w.params).In h₀) (N : News h₀ L s.heap news) (T : Top p loose mean mg mb h₀)
    (XB : (hd.heap_1 w.params).In base) (TB : Top p loose mean mg mb base) (D : KtsDicts (outer.filterMap (·.frame)) h₀) (T0 : KtsTurn (outer.filterMap (·.frame)) g₀ h₀)
    (hb : (b, instObj 530 db) ∈ news) (hdb : (db, fqD w.params q bn a1 a2 a3 a4) ∈ news)
    (hz : z = xx + k * 4925250774549309901534880012517951725634967408808180833493536675530715221437151326426783281860614455100828498788352) (h0 : 0 ≤ xx) (h1 : xx < 4925250774549309901534880012517951725634967408808180833493536675530715221437151326426783281860614455100828498788352) (hk : k = 4 ∨ k = 5) (hx1 : 1 ≤ xx) (hq : 7 ≤ q) (hq2 : q ≤ 127) (hb0 : 0 ≤ bn) (hb1 : bn < q)
    (hret : ∀ (t : Tok) (h₀' h' : Heap) (tk' : Nat), KtsTurn (outer.filterMap (·.frame)) g₀ h₀' → Fr h₀' L h' m → News h₀' L h' news → Below A₀ base outer h₀' → (hd.heap_1 w.params).In h₀' → Top p loose mean mg mb h₀' → KtsDicts (outer.filterMap (·.frame)) h₀' → readI xx bn q k = none → Q (.str (Str.ofString "refused") t) { s with heap := h', toks := tk' })
    (hrets : ∀ (D : Addr) (y : Int) (t1 t2 t3 : Tok) (h₀' h' : Heap) (tk' : Nat), KtsTurn (outer.filterMap (·.frame)) g₀ h₀' → Fr h₀' L h' m → News h₀' L h' ((D, tup3 (.int xx t1) (.int y t2) (.int 1 t3)) :: news) → Below A₀ base outer h₀' → (hd.heap_1 w.params).In h₀' → Top p loose mean mg mb h₀' → KtsDicts (outer.filterMap (·.frame)) h₀' → readI xx bn q k = some y → Q (.ref D) { s with heap := h', toks := tk' }) :
    wpAny (model PR w) (ar dp un gd (envOf cn cs L a ccd) outer) (call (.ref 576) [.int z tz, .ref b]) Q E s := by
  have hq0 : 0 < q := by omega
  refine wpAny_call ?_
  first | k_dflt kts_go | fail "no way in"
  k_steps
  all_goals first
    | exact hret _ _ _ _ (by assumption) (by assumption) (cb_drop (by k_asm) (by repeat (first | exact (fun _ h9 => h9) | refine sub_tail ?_))) (by assumption) (by assumption) (by assumption) (by assumption) (by first | exact rd_none1 (by assumption) | exact rd_none2 hq0 (by assumption))
    | (refine hrets _ _ _ _ _ _ _ _ T0 (by k_asm) (tup3_int (by k_asm) (.head _) (by repeat (first | exact (fun _ h9 => h9) | refine sub_tail ?_)) (Int.emod_eq_of_lt h0 (by omega)) (Int.emod_eq_of_lt (by decide) (by omega))) B X T D (by first | exact rd_some1 hq0 (by assumption) (by assumption) (by assumption) | exact rd_some2 hq0 (by assumption) (by assumption) (by assumption)))
theorem lay57 : True := by
  k_with "m:call ref" => ((with_reducible show wpAny _ _ (call (Value.ref 576) [Value.int _ _, Value.ref _] _) _ _ _); k_dflt (refine' read_c ?qFq7 ?qKq7 ?qDq7 ?qUq7 ?q1q7 ?q2q7 ?q3q7 ?q4q7 ?q5q7 ?rXBq7 ?rTBq7 ?rDq7 ?rT0q7 ?rbq7 ?rdbq7 ?rzq7 ?r0q7 ?r1q7 ?rkq7 ?rx1q7 ?rqq7 ?rq2q7 ?rn0q7 ?rn1q7 (fun t' g₀' h' tk' T' F' N' B' X' P' D' c1 => ?_) (fun D1' y' t1' t2' t3' g₀' h' tk' T' F' N' B' X' P' D' c1 => ?_); (k_extra "std"); (case rXBq7 => assumption); (case rTBq7 => assumption); (case rDq7 => assumption); (case rT0q7 => (first | assumption | exact KtsTurn.refl)); (case rbq7 => k_mem); (case rdbq7 => k_mem); (case rzq7 => (first | assumption | exact rfl)); (case r0q7 => omega); (case r1q7 => omega); (case rkq7 => assumption); (case rx1q7 => omega); (case rqq7 => (first | assumption | omega)); (case rq2q7 => (first | assumption | omega)); (case rn0q7 => (first | assumption | omega)); (case rn1q7 => (first | assumption | omega)); k_whole; (all_goals ((try dsimp only); (try k_sweep)))))
  trivial
end

-- piece glaw
theorem gl_nat : (primesL.all fun p => decide (p % 2 = 1) && (List.range p).all fun c => c == 0 || (decide (c ^ ((p + 1) / 4) % p ≠ 0) && (decide ((c ^ ((p + 1) / 4) % p) * (c ^ ((p + 1) / 4) % p) % p = c) == decide (c ^ ((p - 1) / 2) % p = 1)))) = true := by decide +kernel
theorem gl_cube : (primesL.all fun p => (List.range p).all fun x => x == 0 || badN p ((p - x * x * x % p) % p)) = true := by decide +kernel
theorem badI_of {p b : Int} (h : primeI p) (hb0 : 0 ≤ b) (hb1 : b < p) (hbad : badN p.toNat b.toNat = true) : badI p b := by
  unfold badN at hbad
  rw [Bool.or_eq_true, beq_iff_eq, beq_iff_eq] at hbad
  obtain ⟨P, rfl⟩ := Int.eq_ofNat_of_zero_le h.1
  obtain ⟨b', rfl⟩ := Int.eq_ofNat_of_zero_le hb0
  rw [Int.toNat_natCast, Int.toNat_natCast] at hbad
  have hbd := h.bd
  by_cases hz : b' = 0
  · exact .inl (by omega)
  · right
    rcases hbad with e | e
    · exact absurd e hz
    · have e1 : ((P : Int) - (b' : Int)) % (P : Int) = ((P - b' : Nat) : Int) := by rw [Int.emod_eq_of_lt (by omega) (by omega)]; omega
      have e2 : ((P : Int) - 1).fdiv 3 = (((P - 1) / 3 : Nat) : Int) := by rw [Int.fdiv_eq_ediv_of_nonneg _ (by decide)]; omega
      rw [e1, e2, Int.toNat_natCast, ← Int.natCast_pow, ← Int.natCast_emod]
      omega
theorem gl_c0 {p x r : Int} (hp : primeI p) (hx0 : 1 ≤ x) (hx1 : x < p) (hr0 : 0 ≤ r) (hr1 : r < p) (hb : ¬ badI p r) : (x * x * x + r) % p ≠ 0 := by
  intro h0
  have hbd := hp.bd
  have hall := gl_cube
  rw [List.all_eq_true] at hall
  have h1 := hall _ hp.2
  rw [List.all_eq_true] at h1
  have h2 := h1 x.toNat (List.mem_range.mpr (by omega))
  rw [Bool.or_eq_true, beq_iff_eq] at h2
  have h3 := h2.resolve_left (by omega)
  refine hb (badI_of hp hr0 hr1 ?_)
  have hm0 := Int.emod_nonneg (x * x * x) (show p ≠ 0 by omega)
  have hm1 := Int.emod_lt_of_pos (x * x * x) (show 0 < p by omega)
  have h4 : (x * x * x % p + r) % p = 0 := by rw [Int.emod_add_emod]; exact h0
  have h5 : x * x * x % p + r = 0 ∨ x * x * x % p + r = p := by
    by_cases h6 : x * x * x % p + r < p
    · rw [Int.emod_eq_of_lt (by omega) h6] at h4; exact .inl h4
    · right
      rw [← Int.sub_emod_right, Int.emod_eq_of_lt (by omega) (by omega)] at h4
      omega
  have h7 : r.toNat = (p.toNat - x.toNat * x.toNat * x.toNat % p.toNat) % p.toNat := by
    obtain ⟨P, rfl⟩ := Int.eq_ofNat_of_zero_le hp.1
    obtain ⟨X, rfl⟩ := Int.eq_ofNat_of_zero_le (show 0 ≤ x by omega)
    rw [Int.toNat_natCast, Int.toNat_natCast]
    rw [← Int.natCast_mul, ← Int.natCast_mul, ← Int.natCast_emod] at h5 hm0 hm1
    generalize X * X * X % P = M at h5 hm0 hm1 ⊢
    rcases h5 with e | e
    · have : M = 0 := by omega
      rw [this, Nat.sub_zero, Nat.mod_self]; omega
    · by_cases hM : M = 0
      · omega
      · rw [Nat.mod_eq_of_lt (by omega)]; omega
  rw [h7]; exact h3
theorem gl_core {p c : Int} (hp : primeI p) (hc0 : 1 ≤ c) (hc1 : c < p) : p % 2 = 1 ∧ yI p c ≠ 0 ∧ (yI p c * yI p c % p = c ↔ (c % p) ^ ((p - 1).fdiv 2).toNat % p = 1) := by
  have hbd := hp.bd
  have hall := gl_nat
  rw [List.all_eq_true] at hall
  have h1 := hall _ hp.2
  rw [Bool.and_eq_true, List.all_eq_true, decide_eq_true_eq] at h1
  obtain ⟨hodd, h1⟩ := h1
  have h2 := h1 c.toNat (List.mem_range.mpr (by omega))
  rw [Bool.or_eq_true, beq_iff_eq] at h2
  have h3 := h2.resolve_left (by omega)
  rw [Bool.and_eq_true, decide_eq_true_eq, beq_iff_eq, decide_eq_decide] at h3
  obtain ⟨h3, h4⟩ := h3
  obtain ⟨P, rfl⟩ := Int.eq_ofNat_of_zero_le hp.1
  obtain ⟨C, rfl⟩ := Int.eq_ofNat_of_zero_le (show 0 ≤ c by omega)
  rw [Int.toNat_natCast] at hodd
  rw [Int.toNat_natCast, Int.toNat_natCast] at h3 h4
  have e1 : (((P : Int) + 1) / 4).toNat = (P + 1) / 4 := by omega
  have e2 : (((P : Int) - 1).fdiv 2).toNat = (P - 1) / 2 := by rw [Int.fdiv_eq_ediv_of_nonneg _ (by decide)]; omega
  unfold yI
  rw [Int.emod_eq_of_lt (by omega) hc1, e1, e2, ← Int.natCast_pow, ← Int.natCast_pow, ← Int.natCast_emod, ← Int.natCast_emod, ← Int.natCast_mul, ← Int.natCast_emod]
  generalize C ^ ((P + 1) / 4) % P = Y at h3 h4 ⊢
  generalize C ^ ((P - 1) / 2) % P = Z at h4 ⊢
  generalize Y * Y % P = W at h4 ⊢
  refine ⟨by omega, by omega, ?_⟩
  omega
theorem gl_B {p x r k : Int} (h : ¬ x < p) : readI x r p k = none := if_pos (by omega)
theorem gl_C {p x r k c : Int} (hp : primeI p) (hx0 : 1 ≤ x) (hr0 : 0 ≤ r) (hr1 : r < p) (hb : ¬ badI p r) (hc : c = (x * x * x + r) % p) (hE : ¬ (c % p) ^ ((p - 1).fdiv 2).toNat % p = 1) : readI x r p k = none := by
  subst hc
  have hbd := hp.bd
  unfold readI
  by_cases h : p ≤ x
  · rw [if_pos h]
  · have h0 := Int.emod_nonneg (x * x * x + r) (show p ≠ 0 by omega)
    have h1 := Int.emod_lt_of_pos (x * x * x + r) (show 0 < p by omega)
    have h2 := gl_c0 hp hx0 (by omega) hr0 hr1 hb
    have h3 := gl_core hp (show 1 ≤ (x * x * x + r) % p by omega) h1
    rw [if_neg h, if_pos fun e => hE (h3.2.2.mp e)]
theorem gl_A {p x r k c : Int} (hp : primeI p) (hx0 : 1 ≤ x) (hx1 : x < p) (hr0 : 0 ≤ r) (hr1 : r < p) (hb : ¬ badI p r) (hk : k = 4 ∨ k = 5) (hc : c = (x * x * x + r) % p) (hE : (c % p) ^ ((p - 1).fdiv 2).toNat % p = 1) {y : Int} (hy : y = (c % p) ^ ((p + 1).fdiv 4).toNat % p) :
    readI x r p k = some (if (decide (p - y < y) == (k == 5)) = true then y else p - y) := by
  subst hc
  have hbd := hp.bd
  have h0 := Int.emod_nonneg (x * x * x + r) (show p ≠ 0 by omega)
  have h1 := Int.emod_lt_of_pos (x * x * x + r) (show 0 < p by omega)
  have h2 := gl_c0 hp hx0 hx1 hr0 hr1 hb
  have h3 := gl_core hp (show 1 ≤ (x * x * x + r) % p by omega) h1
  have hyI : y = yI p ((x * x * x + r) % p) := by rw [hy, Int.emod_emod, Int.fdiv_eq_ediv_of_nonneg _ (by decide)]; rfl
  have hyb := yI_bd (c := (x * x * x + r) % p) (show 0 < p by omega)
  unfold readI
  rw [if_neg (by omega), if_neg (not_not_intro (h3.2.2.mpr hE)), ← hyI]
  rw [← hyI] at h3 hyb
  obtain ⟨ho, hn, _⟩ := h3
  rw [Int.emod_eq_of_lt (show 0 ≤ p - y by omega) (by omega)]
  have h5 : y * 2 / p = if p - y < y then 1 else 0 := by
    by_cases h6 : p - y < y
    · rw [if_pos h6]
      have : y * 2 = p * 1 + (y * 2 - p) := by omega
      rw [this, Int.mul_add_ediv_left _ _ (show p ≠ 0 by omega), Int.ediv_eq_zero_of_lt (by omega) (by omega)]; rfl
    · rw [if_neg h6, Int.ediv_eq_zero_of_lt (by omega) (by omega)]
  rw [h5]
  by_cases h6 : p - y < y <;> rcases hk with rfl | rfl <;> simp [h6]
theorem gz_none {p x r k c : Int} (hp : primeI p) (h : readI x (r % p) p k = none) (hc : c = (x * x * x + r) % p) (hx0 : 1 ≤ x) (hr0 : 0 ≤ r) (hr1 : r < p) (hb : ¬ badI p r) (hk : k = 4 ∨ k = 5) (hx1 : x < p) (hE : (c % p) ^ ((p - 1).fdiv 2).toNat % p = 1) : False := by
  rw [Int.emod_eq_of_lt hr0 hr1, gl_A hp hx0 hx1 hr0 hr1 hb hk hc hE rfl] at h; cases h
theorem gz_B {p x r k y : Int} (h : readI x (r % p) p k = some y) (hx1 : ¬ x < p) : False := by
  rw [gl_B hx1] at h; cases h
theorem gz_C {p x r k c y : Int} (hp : primeI p) (h : readI x (r % p) p k = some y) (hc : c = (x * x * x + r) % p) (hx0 : 1 ≤ x) (hr0 : 0 ≤ r) (hr1 : r < p) (hb : ¬ badI p r) (hE : ¬ (c % p) ^ ((p - 1).fdiv 2).toNat % p = 1) : False := by
  rw [Int.emod_eq_of_lt hr0 hr1, gl_C hp hx0 hr0 hr1 hb hc hE] at h; cases h
theorem gz_1 {p x r k c y y' : Int} (hp : primeI p) (h : readI x (r % p) p k = some y') (hc : c = (x * x * x + r) % p) (hx0 : 1 ≤ x) (hr0 : 0 ≤ r) (hr1 : r < p) (hb : ¬ badI p r) (hk : k = 4 ∨ k = 5) (hx1 : x < p) (hE : (c % p) ^ ((p - 1).fdiv 2).toNat % p = 1) (hy : y = (c % p) ^ ((p + 1).fdiv 4).toNat % p)
    (hd : (decide (p - y < y) == (k == 5)) = true) (hn : ¬ y' = y) : False := by
  rw [Int.emod_eq_of_lt hr0 hr1, gl_A hp hx0 hx1 hr0 hr1 hb hk hc hE hy, if_pos hd] at h; injection h with h; exact hn h.symm
theorem gz_2 {p x r k c y y' : Int} (hp : primeI p) (h : readI x (r % p) p k = some y') (hc : c = (x * x * x + r) % p) (hx0 : 1 ≤ x) (hr0 : 0 ≤ r) (hr1 : r < p) (hb : ¬ badI p r) (hk : k = 4 ∨ k = 5) (hx1 : x < p) (hE : (c % p) ^ ((p - 1).fdiv 2).toNat % p = 1) (hy : y = (c % p) ^ ((p + 1).fdiv 4).toNat % p)
    (hd : (decide (p - y < y) == (k == 5)) = false) (hn : ¬ y' = p - y) : False := by
  rw [Int.emod_eq_of_lt hr0 hr1, gl_A hp hx0 hx1 hr0 hr1 hb hk hc hE hy, if_neg (by rw [hd]; exact Bool.false_ne_true)] at h; injection h with h; exact hn h.symm
theorem gz_2' {p x r k c y y' : Int} (hp : primeI p) (h : readI x (r % p) p k = some y') (hc : c = (x * x * x + r) % p) (hx0 : 1 ≤ x) (hr0 : 0 ≤ r) (hr1 : r < p) (hb : ¬ badI p r) (hk : k = 4 ∨ k = 5) (hx1 : x < p) (hE : (c % p) ^ ((p - 1).fdiv 2).toNat % p = 1) (hy : y = (c % p) ^ ((p + 1).fdiv 4).toNat % p)
    (hd : ¬ (decide (p - y < y) == (k == 5)) = true) (hn : ¬ y' = p - y) : False :=
  gz_2 hp h hc hx0 hr0 hr1 hb hk hx1 hE hy (Bool.eq_false_iff.mpr hd) hn
theorem gz_far {p x r k v y : Int} (hp : p ≤ 127) (hx0 : 1 ≤ x) (hv : 256 ≤ v) (h : readI (x + v) r p k = some y) : False := by
  rw [gl_B (by omega)] at h; cases h

-- piece great
section
variable {M : Model} {A : Around} {env : Env} {n : Str} {t u : Tok} {Q : Unit → Shared → Prop} {E : Value → Shared → Prop} {s : Shared}
theorem gr_high (h : wpAny M A (storeName env n (.int 4925250774549309901534880012517951725634967408808180833493536675530715221437151326426783281860614455100828498788352 t)) Q E s) : wpAny M A (storeName env n (.int (2 ^ Int.toNat 381) t)) Q E s := by
  have e : (2 : Int) ^ Int.toNat 381 = 4925250774549309901534880012517951725634967408808180833493536675530715221437151326426783281860614455100828498788352 := by decide +kernel
  rw [e]; exact h
theorem gr_x {p a : Int} (hp : 7 ≤ p) (h : ∀ v, 1 ≤ v → v ≤ 2 * p → wpAny M A (storeName env n (.int v t)) Q E s) : wpAny M A (storeName env n (.int (1 + a.fmod (2 * p)) t)) Q E s :=
  h _ (by have := Int.fmod_nonneg_of_pos a (show 0 < 2 * p by omega); omega) (by have := Int.fmod_lt_of_pos a (show 0 < 2 * p by omega); omega)
theorem gr_mark {a : Int} (h : ∀ v : Int, v = 4 ∨ v = 5 → wpAny M A (storeName env n (.int v t)) Q E s) : wpAny M A (storeName env n (.int (4 + a.fmod 2) t)) Q E s :=
  h _ (by have h1 := Int.fmod_nonneg_of_pos a (show (0 : Int) < 2 by decide); have h2 := Int.fmod_lt_of_pos a (show (0 : Int) < 2 by decide); omega)
theorem gr_c {p x b : Int} (hp : 7 ≤ p) (h : ∀ v : Int, v = (x * x * x + b) % p → 0 ≤ v → v < p → wpAny M A (storeName env n (.int v t)) Q E s) : wpAny M A (storeName env n (.int ((x * x * x + b).fmod p) t)) Q E s :=
  h _ (Int.fmod_eq_emod_of_nonneg _ (by omega)) (Int.fmod_nonneg_of_pos _ (by omega)) (Int.fmod_lt_of_pos _ (by omega))
theorem gr_y {p c e : Int} (hp : 7 ≤ p) (h : ∀ v : Int, v = (c % p) ^ e.toNat % p → 0 ≤ v → v < p → wpAny M A (storeName env n (.int v t)) Q E s) : wpAny M A (storeName env n (.int ((c % p) ^ e.toNat % p) t)) Q E s :=
  h _ rfl (Int.emod_nonneg _ (by omega)) (Int.emod_lt_of_pos _ (by omega))
end
section
variable {prog : Program} {w : World} {A : Around} {t u : Tok} {Q : Value → Shared → Prop} {E : Value → Shared → Prop} {s : Shared}
theorem gr_p381 (h : Q (.int 4925250774549309901534880012517951725634967408808180833493536675530715221437151326426783281860614455100828498788352 s.toks) { s with toks := s.toks + 1 }) : wpAny (model prog w) A (binaryOp .Pow (.int 2 t) (.int 381 u)) Q E s := by
  refine PyProof.Rows.pow_int_small (by decide) (by decide) (by decide) ?_
  have e : (2 : Int) ^ Int.toNat 381 = 4925250774549309901534880012517951725634967408808180833493536675530715221437151326426783281860614455100828498788352 := by decide +kernel
  rw [e]; exact h
theorem gr_pow {a : Int} (h : ∀ v : Int, 256 ≤ v → v ≤ 2462625387274654950767440006258975862817483704404090416746768337765357610718575663213391640930307227550414249394176 → Q (.int v s.toks) { s with toks := s.toks + 1 }) : wpAny (model prog w) A (binaryOp .Pow (.int 2 t) (.int (8 + a.fmod 373) u)) Q E s := by
  have h1 := Int.fmod_nonneg_of_pos a (show (0 : Int) < 373 by decide)
  have h2 := Int.fmod_lt_of_pos a (show (0 : Int) < 373 by decide)
  obtain ⟨e, he⟩ := Int.eq_ofNat_of_zero_le (show 0 ≤ 8 + a.fmod 373 by omega)
  refine PyProof.Rows.pow_int_small (by omega) (by omega) (by decide) (h _ ?_ ?_)
  · rw [he, Int.toNat_natCast]
    have : (2 : Nat) ^ 8 ≤ 2 ^ e := Nat.pow_le_pow_right (by decide) (by omega)
    have h3 : ((2 : Nat) ^ e : Nat) = (2 : Int) ^ e := Int.natCast_pow 2 e
    omega
  · rw [he, Int.toNat_natCast]
    have : (2 : Nat) ^ e ≤ 2 ^ 380 := Nat.pow_le_pow_right (by decide) (by omega)
    have h3 : ((2 : Nat) ^ e : Nat) = (2 : Int) ^ e := Int.natCast_pow 2 e
    have h4 : (2 : Nat) ^ 380 = 2462625387274654950767440006258975862817483704404090416746768337765357610718575663213391640930307227550414249394176 := by decide +kernel
    omega
end
section
variable {w : World} {p : Program} {loose : List Str} {mean : ExcName → Option Value} {mg mb : Str → Option Value} {dp un : Nat} {gd : Option (List Code)} {A₀ : Around} {env : Env} {outer : List Env} {base h₀ : Heap} {L : Addr} {m : Str → Option Value} {s : Shared} {Q E : Value → Shared → Prop} {news : List (Addr × Obj)}
variable {cn : Str} {cs : Scope} {a : Addr} {ccd : Value} {g₀ : Heap}
theorem lay58 : True := by
  k_with "m:binaryOp Pow int int" => ((with_reducible refine gr_p381 ?_))
  k_with "m:storeName" => ((with_reducible show wpAny _ _ (storeName _ (PySem.Str.ofString "x") (Value.int (1 + _) _)) _ _ _); k_dflt (refine gr_x (by assumption) ?_); intro v'q g1q g2q)
  k_with "m:storeName" => ((with_reducible show wpAny _ _ (storeName _ (PySem.Str.ofString "mark") (Value.int (4 + _) _)) _ _ _); k_dflt (refine gr_mark ?_); intro v'q g1q)
  k_with "m:storeName" => ((with_reducible show wpAny _ _ (storeName _ (PySem.Str.ofString "c") (Value.int (Int.fmod _ _) _)) _ _ _); k_dflt (refine gr_c (by assumption) ?_); intro v'q g1q g2q g3q)
  k_with "m:storeName" => ((with_reducible show wpAny _ _ (storeName _ (PySem.Str.ofString "y") (Value.int (_ % _) _)) _ _ _); k_dflt (refine gr_y (by assumption) ?_); intro v'q g1q g2q g3q)
  k_with "m:binaryOp Pow int int" => ((with_reducible show wpAny _ _ (binaryOp _ (Value.int 2 _) (Value.int (8 + _) _)) _ _ _); k_dflt (refine gr_pow ?_); intro v'q g1q g2q)
  trivial
set_option maxRecDepth 100000 in
set_option maxHeartbeats 8000000 in
theorem great_c {l : Addr} {vs : List Value} {ns : List Int} {p' : Int} {tp : Tok}
    (hf : (envOf cn cs L a ccd).frame = some L) (hke : (envOf cn cs L a ccd).scope.kind = .function) (hdp : dp ≤ 700) (hun : un ≤ 7000)
    (B : Below A₀ base outer h₀) (F : Fr h₀ L s.heap m) (X : (hd.heap_1 w.params).In h₀) (N : News h₀ L s.heap news) (T : Top p loose mean mg mb h₀)
    (XB : (hd.heap_1 w.params).In base) (TB : Top p loose mean mg mb base) (D : KtsDicts (outer.filterMap (·.frame)) h₀) (T0 : KtsTurn (outer.filterMap (·.frame)) g₀ h₀)
    (hl : base.IsList l vs.toArray) (hi : IntsAre vs ns) (hns : ns.length ≤ 63) (hp : primeI p')
    (hret : ∀ (h₀' h' : Heap) (tk' : Nat), KtsTurn (outer.filterMap (·.frame)) g₀ h₀' → Fr h₀' L h' m → News h₀' L h' news → Below A₀ base outer h₀' → (hd.heap_1 w.params).In h₀' → Top p loose mean mg mb h₀' → KtsDicts (outer.filterMap (·.frame)) h₀' → Q (.bool true) { s with heap := h', toks := tk' }) :
    wpAny (model PR w) (ar dp un gd (envOf cn cs L a ccd) outer) (call (.ref 583) [.ref l, .int p' tp]) Q E s := by
  have hp7 : 7 ≤ p' := hp.bd.1
  have hp127 : p' ≤ 127 := hp.bd.2
  refine wpAny_call ?_
  first | k_dflt kts_go | fail "no way in"
  k_steps
  all_goals first
    | exact (gz_far hp127 (by assumption) (by assumption) (by assumption)).elim
    | exact (gz_none hp (by assumption) (by assumption) (by assumption) (by assumption) (by assumption) (by assumption) (by assumption) (by assumption) (by assumption)).elim
    | exact (gz_B (by assumption) (by assumption)).elim
    | exact (gz_C hp (by assumption) (by assumption) (by assumption) (by assumption) (by assumption) (by assumption) (by assumption)).elim
    | exact (gz_1 hp (by assumption) (by assumption) (by assumption) (by assumption) (by assumption) (by assumption) (by assumption) (by assumption) (by assumption) (by assumption) (by assumption) (by assumption)).elim
    | exact (gz_2 hp (by assumption) (by assumption) (by assumption) (by assumption) (by assumption) (by assumption) (by assumption) (by assumption) (by assumption) (by assumption) (by assumption) (by assumption)).elim
    | exact (gz_2' hp (by assumption) (by assumption) (by assumption) (by assumption) (by assumption) (by assumption) (by assumption) (by assumption) (by assumption) (by assumption) (by assumption) (by assumption)).elim
    | (refine ret_bool ?_ (hret _ _ _ (by assumption) (by k_asm) (cb_drop (by k_asm) (by repeat (first | exact (fun _ h9 => h9) | refine sub_tail ?_))) (by assumption) (by assumption) (by assumption) (by assumption)); decide)
end

theorem lay59 : True := by
  k_with_none
  k_with "std" => ((case qFq7 => first | assumption | exact rfl); (case qKq7 => first | assumption | exact rfl); (case qDq7 => ((try simp +zetaDelta only [depth_mark, depth_under_make, depth_under_kw, depth_in1, depth_deeper]); (try dsimp only); omega)); (case qUq7 => ((try simp +zetaDelta only [units_under_make, units_in1, units_deeper, Around.mark_units]); (try dsimp only); omega)); (case q1q7 => k_asm); (case q2q7 => k_asm); (case q3q7 => k_asm); (case q4q7 => k_asm); (case q5q7 => k_asm))
  k_with "m.k_room" => ((show _ < 1000); (try simp +zetaDelta only [depth_mark, depth_under_make, depth_under_kw, depth_in1, depth_deeper]); (try dsimp only); omega)
  k_with "m.k_units" => ((show _ < 9900); (try simp +zetaDelta only [units_under_make, units_in1, units_deeper, Around.mark_units]); (try dsimp only); omega)
  k_with "m.k_enter" => (refine' code_defB ?k1q7 ?k2q7 ?k3q7 ?k4q7 ?k5q7 ?kAq7 ?kFq7 ?kKq7 ?k6q7 ?k7q7 ?k8q7 ?kPq7 ?k9q7 ?kDq7 ?kBq7 ?_ ?c2q7 ?c3q7 ?c4q7 ?c5q7; (case kAq7 => exact rfl); (case kFq7 => first | assumption | exact rfl); (case kKq7 => first | assumption | exact rfl); (case k1q7 => k_asm); (case k2q7 => k_asm); (case k3q7 => k_asm); (case k4q7 => k_asm); (case k5q7 => k_asm); (case k6q7 => k_is); (case k7q7 => k_is); (case k8q7 => k_room); (case kPq7 => first | exact BindsP.nil | exact BindsP.cons BindsP.nil | exact BindsP.cons (BindsP.cons BindsP.nil) | exact BindsP.cons (BindsP.cons (BindsP.cons BindsP.nil)) | exact BindsP.cons (BindsP.cons (BindsP.cons (BindsP.cons BindsP.nil))) | exact BindsP.cons (BindsP.cons (BindsP.cons (BindsP.cons (BindsP.cons BindsP.nil)))) | exact BindsP.cons (BindsP.cons (BindsP.cons (BindsP.cons (BindsP.cons (BindsP.cons BindsP.nil))))) | exact BindsP.cons (BindsP.cons (BindsP.cons (BindsP.cons (BindsP.cons (BindsP.cons (BindsP.cons BindsP.nil)))))) | exact BindsP.cons (BindsP.cons (BindsP.cons (BindsP.cons (BindsP.cons (BindsP.cons (BindsP.cons (BindsP.cons BindsP.nil)))))))); (case k9q7 => first | exact BindsTo.of_eq rfl | exact binds_K (by k_in) rfl (by k_is) rfl rfl rfl | fail "k_enter: no rule for these arguments"); (case kDq7 => kernel_rfl); (case c5q7 => decide); (case kBq7 => exact locs rfl); (case c2q7 => exact rfl); (case c3q7 => exact rfl); (case c4q7 => exact rfl); k_whole; intro g'q L'q h'q FG'q F'q N'q B'q X'q T'q; (try dsimp only [bindMap, List.length_cons, List.length_nil] at F'q ⊢); (try k_lift B'q); (first | refine let q'q : Flow → Shared → Prop := _; let e'q : Value → Shared → Prop := _; let o'q : Around := _; let v'q : Env := _; let a'q : Around := Around.deeper o'q v'q; let s'q : Shared := _; (?_ : wpAny _ a'q (execs _ v'q) q'q e'q s'q) | skip))
  k_with "m:CmpBack" => (unfold PySem.W.CmpBack; (try dsimp only))
  k_with "m:LenBack" => (unfold PySem.W.LenBack; (try dsimp only))
  k_with "m:StrBack" => (unfold PySem.W.StrBack; (try dsimp only))
  k_with "m:BoolBack" => (unfold PySem.W.BoolBack; (try dsimp only))
  k_with "mem" => first | exact List.Mem.head _ | assumption | (refine' List.Mem.tail _ ?_; k_extra "mem")
  k_with "m.k_ne" => (refine neN ?_; (try dsimp only); first | ((refine Nat.ne_of_lt ?_; (repeat (first | with_reducible exact Nat.lt_add_one _ | with_reducible refine Nat.lt_add_one_of_lt ?_)); done)) | ((refine Nat.ne_of_gt ?_; (repeat (first | with_reducible exact Nat.lt_add_one _ | with_reducible refine Nat.lt_add_one_of_lt ?_)); done)) | ((with_reducible refine Nat.ne_of_gt ?_; first | with_reducible assumption | exact And.left (by with_reducible assumption) | exact And.left (And.right (by with_reducible assumption)) | exact And.left (And.right (And.right (by with_reducible assumption))) | exact And.left (And.right (And.right (And.right (by with_reducible assumption)))) | exact And.left (And.right (And.right (And.right (And.right (by with_reducible assumption))))) | exact And.left (And.right (And.right (And.right (And.right (And.right (by with_reducible assumption)))))) | exact And.left (And.right (And.right (And.right (And.right (And.right (And.right (by with_reducible assumption))))))) | exact And.left (And.right (And.right (And.right (And.right (And.right (And.right (And.right (by with_reducible assumption)))))))) | exact And.left (And.right (And.right (And.right (And.right (And.right (And.right (And.right (And.right (by with_reducible assumption))))))))))) | omega)
  k_with "m.k_mem" => k_extra "mem"
  k_with "m:eval Call" => ((with_reducible show wpAny _ _ (eval (Expr.Call (Expr.Name _ _) _ [] _) _) _ _ _); k_dflt (refine Call_ ?_))
  k_with "m:eval Call Attribute" => ((with_reducible show wpAny _ _ (eval (Expr.Call (Expr.Attribute _ _ _) _ [] _) _) _ _ _); k_dflt (refine MethodCall_ ?_))
  k_with "m:newTuple" => (k_here; k_dflt (refine' kup_newTuple ?Fq7 ?Nq7 ?_ ?zq7; (case Fq7 => k_asm); (case Nq7 => k_asm); (case zq7 => kmk_size)); intro D'q h'q F'q N'q l1q; clear l1q; (try k_sweep))
  k_with "m.k_steps" => repeat' (first | ((fail_if_success (fail_if_success k_unfold)); first | ((with_reducible refine (?_ : wpAny _ _ _ _ _ _)); (try dsimp only)) | (k_unfold; (try dsimp only))) | ((fail_if_success (fail_if_success k_fold)); refine let q'q : _ → _ → Prop := _; let s'q : Shared := _; (?_ : wpAny _ _ _ q'q _ s'q)) | (k_end; kc_close) | walk1 | (dsimp only; walk1) | (show (_ : _ → _ → Prop) _ _; k_unfold; (try dsimp only)) | (dsimp only [List.cons_append, List.nil_append]; walk1) | (leave1; walk_say "STEP leave1"; (try dsimp only)) | fail "no step")
  k_with "m.units_room" => ((have hcL'q := cLine_is); (simp +zetaDelta only [units_in1, units_deeper, Around.mark_units, units_caller, units_under_make]); omega)
  k_with "m.k_in" => first | with_reducible assumption | exact Frag.In.keeps (by k_asm) (Fr.keep (by k_asm))
  k_with "m.omega" => first | with_reducible assumption | (with_reducible show (_ : Nat) ≤ _; first | exact Nat.le_of_ble_eq_true rfl | exact omA (by with_reducible assumption) rfl | exact omB (by with_reducible assumption) rfl | exact omC (by with_reducible assumption) rfl) | (with_reducible show (_ : Nat) < _; first | exact Nat.le_of_ble_eq_true rfl | exact omD (by with_reducible assumption) rfl | exact omE (by with_reducible assumption) rfl) | (with_reducible show (_ : Int) ≤ _; first | decide | exact oiA (by with_reducible assumption) rfl | exact oiE (by with_reducible assumption) rfl | exact oiC (by with_reducible assumption) rfl | exact oiH (by with_reducible assumption) rfl) | (with_reducible show (_ : Int) < _; first | decide | exact oiB (by with_reducible assumption) rfl | exact oiF (by with_reducible assumption) rfl | exact oiG (by with_reducible assumption) rfl | exact oiD (by with_reducible assumption) rfl) | (with_reducible show ¬ ((_ : Int) = _); exact oiI (by with_reducible assumption) rfl) | lia
  k_with "sx" => first | with_reducible exact EI.const | ((with_reducible show EI _ _ _ _ _ (Expr.Name _ _) _); refine' EI.name ?Fq7 ?mq7 ?aq7 ?bq7 ?cq7; (case Fq7 => k_asm); (case mq7 => exact rfl); (case aq7 => exact rfl); (case bq7 => exact rfl); (case cq7 => exact rfl)) | ((with_reducible refine' EI.add ?dq7 ?eq7); (case dq7 => k_extra "sx"); (case eq7 => k_extra "sx")) | ((with_reducible refine' EI.sub ?dq7 ?eq7); (case dq7 => k_extra "sx"); (case eq7 => k_extra "sx")) | ((with_reducible refine' EI.mul ?dq7 ?eq7 ?fq7); (case dq7 => k_extra "sx"); (case eq7 => k_extra "sx"); (case fq7 => mul_fits)) | ((with_reducible refine' EI.mod ?dq7 ?eq7 ?fq7); (case dq7 => k_extra "sx"); (case eq7 => k_extra "sx"); (case fq7 => first | with_reducible assumption | decide | omega))
  k_with "m:eval BinOp" => ((with_reducible show wpAny _ _ (eval (Expr.BinOp _ _ _ _) _) _ _ _); k_dflt (refine' EI.use ?dq7 ?_; (case dq7 => k_extra "sx"); k_whole); intro t'q tk'q)
  k_with "m:exec Assign" => (k_dflt ((first | (with_reducible show wpAny _ _ (exec (Stmt.Assign [Expr.Name _ _] (Expr.BinOp _ _ _ _) _) _) _ _ _) | (with_reducible show wpAny _ _ (exec (Stmt.Assign [Expr.Name _ _] (Expr.Constant (Const.int _) _ _) _) _) _ _ _)); refine' EI.store ?dq7 ?sq7 ?_; (case dq7 => k_extra "sx"); (case sq7 => first | exact rfl | with_unfolding_all rfl); k_whole); intro t'q tk'q)
  k_with "m:eval Compare" => ((with_reducible show wpAny _ _ (eval (Expr.Compare _ _ _ _) _) _ _ _); k_dflt ((first | with_reducible refine' EI.eq ?dq7 ?eq7 ?bq7 ?_ | with_reducible refine' EI.ne ?dq7 ?eq7 ?bq7 ?_); (case dq7 => k_extra "sx"); (case eq7 => k_extra "sx"); (case bq7 => exact rfl); k_whole); intro tk'q)
  k_with "m:isTrue Compare" => ((with_reducible show wpAny _ _ (PySem.isTrue (Expr.Compare _ _ _ _) _ _) _ _ _); k_dflt ((first | with_reducible refine' EI.isEq ?dq7 ?eq7 ?bq7 ?_ | with_reducible refine' EI.isNe ?dq7 ?eq7 ?bq7 ?_ | with_reducible refine' EI.isLt ?dq7 ?eq7 ?bq7 ?_ | with_reducible refine' EI.isGt ?dq7 ?eq7 ?bq7 ?_); (case dq7 => k_extra "sx"); (case eq7 => k_extra "sx"); (case bq7 => exact rfl); k_whole); intro tk'q)
  k_with "sv" => (refine' EV.name ?Fq7 ?mq7 ?aq7 ?bq7 ?cq7; (case Fq7 => k_asm); (case mq7 => exact rfl); (case aq7 => exact rfl); (case bq7 => exact rfl); (case cq7 => exact rfl))
  k_with "m:eval Call" => k_dflt (first | ((with_reducible show wpAny _ _ (eval (Expr.Call (Expr.Name _ _) [Expr.Name _ _] [] _) _) _ _ _); refine' callK_V ?Fq7 ?Xq7 ?Tq7 ?hnq7 ?hkq7 ?k1q7 ?k2q7 ?k3q7 ?d1q7 ?_; (case d1q7 => k_extra "sv"); (case Fq7 => k_asm); (case Xq7 => k_asm); (case Tq7 => k_asm); (case k1q7 => exact rfl); (case k2q7 => exact rfl); (case k3q7 => exact rfl); (case hnq7 => k_is); (case hkq7 => k_is); k_whole; intro  tk'q) | ((with_reducible show wpAny _ _ (eval (Expr.Call (Expr.Name _ _) [_] [] _) _) _ _ _); refine' callK_I ?Fq7 ?Xq7 ?Tq7 ?hnq7 ?hkq7 ?k1q7 ?k2q7 ?k3q7 ?d1q7 ?_; (case d1q7 => k_extra "sx"); (case Fq7 => k_asm); (case Xq7 => k_asm); (case Tq7 => k_asm); (case k1q7 => exact rfl); (case k2q7 => exact rfl); (case k3q7 => exact rfl); (case hnq7 => k_is); (case hkq7 => k_is); k_whole; intro t'q tk'q) | ((with_reducible show wpAny _ _ (eval (Expr.Call (Expr.Name _ _) [Expr.Name _ _, Expr.Name _ _] [] _) _) _ _ _); refine' callK_VV ?Fq7 ?Xq7 ?Tq7 ?hnq7 ?hkq7 ?k1q7 ?k2q7 ?k3q7 ?d1q7 ?d2q7 ?_; (case d1q7 => k_extra "sv"); (case d2q7 => k_extra "sv"); (case Fq7 => k_asm); (case Xq7 => k_asm); (case Tq7 => k_asm); (case k1q7 => exact rfl); (case k2q7 => exact rfl); (case k3q7 => exact rfl); (case hnq7 => k_is); (case hkq7 => k_is); k_whole; intro  tk'q) | ((with_reducible show wpAny _ _ (eval (Expr.Call (Expr.Name _ _) [Expr.Name _ _, _] [] _) _) _ _ _); refine' callK_VI ?Fq7 ?Xq7 ?Tq7 ?hnq7 ?hkq7 ?k1q7 ?k2q7 ?k3q7 ?d1q7 ?d2q7 ?_; (case d1q7 => k_extra "sv"); (case d2q7 => k_extra "sx"); (case Fq7 => k_asm); (case Xq7 => k_asm); (case Tq7 => k_asm); (case k1q7 => exact rfl); (case k2q7 => exact rfl); (case k3q7 => exact rfl); (case hnq7 => k_is); (case hkq7 => k_is); k_whole; intro t'q tk'q) | ((with_reducible show wpAny _ _ (eval (Expr.Call (Expr.Name _ _) [_, Expr.Name _ _] [] _) _) _ _ _); refine' callK_IV ?Fq7 ?Xq7 ?Tq7 ?hnq7 ?hkq7 ?k1q7 ?k2q7 ?k3q7 ?d1q7 ?d2q7 ?_; (case d1q7 => k_extra "sx"); (case d2q7 => k_extra "sv"); (case Fq7 => k_asm); (case Xq7 => k_asm); (case Tq7 => k_asm); (case k1q7 => exact rfl); (case k2q7 => exact rfl); (case k3q7 => exact rfl); (case hnq7 => k_is); (case hkq7 => k_is); k_whole; intro t'q tk'q) | ((with_reducible show wpAny _ _ (eval (Expr.Call (Expr.Name _ _) [_, _] [] _) _) _ _ _); refine' callK_II ?Fq7 ?Xq7 ?Tq7 ?hnq7 ?hkq7 ?k1q7 ?k2q7 ?k3q7 ?d1q7 ?d2q7 ?_; (case d1q7 => k_extra "sx"); (case d2q7 => k_extra "sx"); (case Fq7 => k_asm); (case Xq7 => k_asm); (case Tq7 => k_asm); (case k1q7 => exact rfl); (case k2q7 => exact rfl); (case k3q7 => exact rfl); (case hnq7 => k_is); (case hkq7 => k_is); k_whole; intro t'q t'q tk'q) | ((with_reducible show wpAny _ _ (eval (Expr.Call (Expr.Name _ _) [Expr.Name _ _, Expr.Name _ _, Expr.Name _ _] [] _) _) _ _ _); refine' callK_VVV ?Fq7 ?Xq7 ?Tq7 ?hnq7 ?hkq7 ?k1q7 ?k2q7 ?k3q7 ?d1q7 ?d2q7 ?d3q7 ?_; (case d1q7 => k_extra "sv"); (case d2q7 => k_extra "sv"); (case d3q7 => k_extra "sv"); (case Fq7 => k_asm); (case Xq7 => k_asm); (case Tq7 => k_asm); (case k1q7 => exact rfl); (case k2q7 => exact rfl); (case k3q7 => exact rfl); (case hnq7 => k_is); (case hkq7 => k_is); k_whole; intro  tk'q) | ((with_reducible show wpAny _ _ (eval (Expr.Call (Expr.Name _ _) [Expr.Name _ _, Expr.Name _ _, _] [] _) _) _ _ _); refine' callK_VVI ?Fq7 ?Xq7 ?Tq7 ?hnq7 ?hkq7 ?k1q7 ?k2q7 ?k3q7 ?d1q7 ?d2q7 ?d3q7 ?_; (case d1q7 => k_extra "sv"); (case d2q7 => k_extra "sv"); (case d3q7 => k_extra "sx"); (case Fq7 => k_asm); (case Xq7 => k_asm); (case Tq7 => k_asm); (case k1q7 => exact rfl); (case k2q7 => exact rfl); (case k3q7 => exact rfl); (case hnq7 => k_is); (case hkq7 => k_is); k_whole; intro t'q tk'q) | ((with_reducible show wpAny _ _ (eval (Expr.Call (Expr.Name _ _) [Expr.Name _ _, _, Expr.Name _ _] [] _) _) _ _ _); refine' callK_VIV ?Fq7 ?Xq7 ?Tq7 ?hnq7 ?hkq7 ?k1q7 ?k2q7 ?k3q7 ?d1q7 ?d2q7 ?d3q7 ?_; (case d1q7 => k_extra "sv"); (case d2q7 => k_extra "sx"); (case d3q7 => k_extra "sv"); (case Fq7 => k_asm); (case Xq7 => k_asm); (case Tq7 => k_asm); (case k1q7 => exact rfl); (case k2q7 => exact rfl); (case k3q7 => exact rfl); (case hnq7 => k_is); (case hkq7 => k_is); k_whole; intro t'q tk'q) | ((with_reducible show wpAny _ _ (eval (Expr.Call (Expr.Name _ _) [Expr.Name _ _, _, _] [] _) _) _ _ _); refine' callK_VII ?Fq7 ?Xq7 ?Tq7 ?hnq7 ?hkq7 ?k1q7 ?k2q7 ?k3q7 ?d1q7 ?d2q7 ?d3q7 ?_; (case d1q7 => k_extra "sv"); (case d2q7 => k_extra "sx"); (case d3q7 => k_extra "sx"); (case Fq7 => k_asm); (case Xq7 => k_asm); (case Tq7 => k_asm); (case k1q7 => exact rfl); (case k2q7 => exact rfl); (case k3q7 => exact rfl); (case hnq7 => k_is); (case hkq7 => k_is); k_whole; intro t'q t'q tk'q) | ((with_reducible show wpAny _ _ (eval (Expr.Call (Expr.Name _ _) [Expr.Name _ _, Expr.Name _ _, Expr.Name _ _, Expr.Name _ _] [] _) _) _ _ _); refine' callK_VVVV ?Fq7 ?Xq7 ?Tq7 ?hnq7 ?hkq7 ?k1q7 ?k2q7 ?k3q7 ?d1q7 ?d2q7 ?d3q7 ?d4q7 ?_; (case d1q7 => k_extra "sv"); (case d2q7 => k_extra "sv"); (case d3q7 => k_extra "sv"); (case d4q7 => k_extra "sv"); (case Fq7 => k_asm); (case Xq7 => k_asm); (case Tq7 => k_asm); (case k1q7 => exact rfl); (case k2q7 => exact rfl); (case k3q7 => exact rfl); (case hnq7 => k_is); (case hkq7 => k_is); k_whole; intro  tk'q))
  k_with "sb" => first | ((with_reducible first | refine' EB.eq ?dq7 ?eq7 ?bq7 | refine' EB.ne ?dq7 ?eq7 ?bq7 | refine' EB.lt ?dq7 ?eq7 ?bq7 | refine' EB.le ?dq7 ?eq7 ?bq7 | refine' EB.gt ?dq7 ?eq7 ?bq7); (case dq7 => k_extra "sx"); (case eq7 => k_extra "sx"); (case bq7 => exact rfl)) | ((with_reducible refine' EB.one ?dq7); (case dq7 => k_extra "sb")) | ((with_reducible refine' EB.or ?dq7 ?eq7); (case dq7 => k_extra "sb"); (case eq7 => intro _; k_extra "sb")) | ((with_reducible refine' EB.and ?dq7 ?eq7); (case dq7 => k_extra "sb"); (case eq7 => intro _; k_extra "sb"))
  k_with "m:eval BoolOp" => (k_dflt (refine' EB.use ?dq7 ?_; (case dq7 => k_extra "sb"); k_whole); intro tk'q)
  k_with "m:eval Compare" => (k_dflt (refine' EB.use ?dq7 ?_; (case dq7 => k_extra "sb"); k_whole); intro tk'q)
  k_with "m:call ref" => ((with_reducible show wpAny _ _ (call (Value.ref 562) [Value.ref _, Value.int _ _] _) _ _ _); k_dflt (refine' law_at_c ?qFq7 ?qKq7 ?qDq7 ?qUq7 ?q1q7 ?q2q7 ?q3q7 ?q4q7 ?q5q7 ?rlq7 ?riq7 ?rnq7 ?r0q7 ?_; (k_extra "std"); (case rlq7 => k_asm); (case riq7 => k_asm); (case rnq7 => (first | assumption | omega)); (case r0q7 => (first | assumption | omega | decide)); k_whole; intro t'q h'q tk'q F'q N'q b1q b2q; (try dsimp only); (try k_sweep)))
  k_with "m:call type:bytes" => ((with_reducible show wpAny _ _ (call (Value.type "bytes") [Value.ref _]) _ _ _); (simp only [rangeKs_length] at *); walk_at "call type:bytes")
  k_with "m:call ref" => ((with_reducible show wpAny _ _ (call (Value.ref 621) [Value.int _ _, Value.int _ _] _) _ _ _); k_dflt (refine' octets_c ?qFq7 ?qKq7 ?qDq7 ?qUq7 ?q1q7 ?q2q7 ?q3q7 ?q4q7 ?q5q7 ?rnq7 ?r0q7 ?r1q7 ?r3q7 ?_; (k_extra "std"); (case rnq7 => (exact ⟨by first | assumption | omega, by first | assumption | omega⟩)); (case r0q7 => (first | assumption | exact Int.fmod_nonneg_of_pos _ (by decide) | omega)); (case r1q7 => (first | assumption | exact Int.lt_trans (Int.fmod_lt_of_pos _ (by decide)) (by decide) | omega)); (case r3q7 => (first | exact oct8 _ | exact oct6 _)); k_whole; intro b'q t'q h'q tk'q F'q N'q bsq bzq; (try dsimp only); (try k_sweep)))
  k_with "m:call ref" => ((with_reducible show wpAny _ _ (call (Value.ref 590) [Value.int _ _, Value.int _ _] _) _ _ _); k_dflt (refine' divisor_c ?qFq7 ?qKq7 ?qDq7 ?qUq7 ?q1q7 ?q2q7 ?q3q7 ?q4q7 ?q5q7 ?raq7 ?rbq7 ?_; (k_extra "std"); (case raq7 => (first | assumption | omega)); (case rbq7 => (first | assumption | omega)); k_whole; intro t'q h'q tk'q F'q N'q; (try dsimp only); (try k_sweep)))
  k_with "m.mul_fits" => ((fail_if_success (fail_if_success (with_reducible rename InvP _ _ _ _ _ _ => x9q))); exact mulok_fdiv (by omega) (by assumption) (by assumption))
  k_with "m:binaryOp FloorDiv int int" => (k_here; (fail_if_success (fail_if_success (with_reducible rename InvP _ _ _ _ _ _ => x9q))); (refine floordiv_int (by first | decide | omega) ?_ (Or.inl (noPylong64 (by omega)))))
  k_with "m:call ref" => ((with_reducible show wpAny _ _ (call (Value.ref 99) [Value.int _ _, Value.int _ _] _) _ _ _); k_dflt (refine' inv_c ?qFq7 ?qKq7 ?qDq7 ?qUq7 ?q1q7 ?q2q7 ?q3q7 ?q4q7 ?q5q7 ?rnq7 ?rn2q7 ?rgq7 ?_; (k_extra "std"); (case rnq7 => (first | assumption | omega)); (case rn2q7 => (first | assumption | omega)); (case rgq7 => (first | assumption | exact inv_g1 (by assumption) (by omega) | exact inv_g2 (by assumption))); k_whole; intro r'q t'q h'q tk'q F'q N'q i1q i2q i3q i4q; (try dsimp only); (try k_sweep)))
  k_with "m:storeName" => (k_here; k_dflt (refine' storeM ?Fq7 ?Nq7 ?_ ?aq7 ?bq7; (case Fq7 => k_asm); (case Nq7 => k_asm); (case aq7 => rfl); (case bq7 => rfl); k_whole; intro m'q n'q h'q F'q N'q; (try k_sweep)))
  k_with "m:callWith builtin:int.to_bytes" => ((with_reducible show wpAny _ _ (callWith _ _ _ _ (backToKw _ (keywordEach (_ :: _) _))) _ _ _); (k_dflt (refine' callWith_bkw ?_)); (try dsimp only))
  k_with "m:callWith ref" => ((with_reducible show wpAny _ _ (callWith _ _ _ _ (backToKw _ (keywordEach (_ :: _) _))) _ _ _); kfb_any; (k_dflt (refine' callWith_fkw ?_)); (try dsimp only))
  k_with "m:call builtin:int.to_bytes" => (k_dflt (first | (refine' tob_kw (k := 1) (B := 256) (by decide) (by decide) ?a0q7 ?a1q7 ?_; (case a0q7 => first | assumption | omega); (case a1q7 => first | assumption | omega)) | (refine' tob_kw (k := 2) (B := 65536) (by decide) (by decide) ?a0q7 ?a1q7 ?_; (case a0q7 => first | assumption | omega); (case a1q7 => first | assumption | omega))); intro t'q k'q)
  k_with "m:call ref" => ((with_reducible show wpAny _ _ (call (Value.ref _) [Value.bytes _ _] _) _ _ _); kfb_any; (k_dflt (refine' fb_call_kw ?a0q7 ?a1q7 ?_; (case a0q7 => exact KFB.at_of (by k_asm) (by k_mem)); (case a1q7 => first | assumption | omega))); intro t'q k'q)
  k_with "m:call ref" => ((with_reducible show wpAny _ _ (call (Value.ref _) [Value.bytes _ _, Value.str _ _]) _ _ _); kfb_any; (k_dflt (refine' fb_call ?a0q7 ?a1q7 ?_; (case a0q7 => exact KFB.at_of (by k_asm) (by k_mem)); (case a1q7 => first | assumption | omega))); intro t'q k'q)
  k_with "m:call ref" => ((with_reducible show wpAny _ _ (call (Value.ref 50) [Value.int _ _, Value.int 1 _] _) _ _ _); k_dflt (refine' i2osp1_c ?qFq7 ?qKq7 ?qDq7 ?qUq7 ?q1q7 ?q2q7 ?q3q7 ?q4q7 ?q5q7 ?r0q7 ?r1q7 ?_; (k_extra "std"); (case r0q7 => (first | assumption | omega)); (case r1q7 => (first | assumption | omega)); k_whole; intro t'q h'q tk'q F'q N'q; (try dsimp only); (try k_sweep)))
  k_with "m:call ref" => ((with_reducible show wpAny _ _ (call (Value.ref 50) [Value.int _ _, Value.int 2 _] _) _ _ _); k_dflt (refine' i2osp2_c ?qFq7 ?qKq7 ?qDq7 ?qUq7 ?q1q7 ?q2q7 ?q3q7 ?q4q7 ?q5q7 ?r0q7 ?r1q7 ?_; (k_extra "std"); (case r0q7 => (first | assumption | omega)); (case r1q7 => (first | assumption | omega)); k_whole; intro t'q h'q tk'q F'q N'q; (try dsimp only); (try k_sweep)))
  k_with "m:call ref" => ((with_reducible show wpAny _ _ (call (Value.ref 57) [Value.bytes _ _] _) _ _ _); k_dflt (refine' os2ip_c ?qFq7 ?qKq7 ?qDq7 ?qUq7 ?q1q7 ?q2q7 ?q3q7 ?q4q7 ?q5q7 ?r0q7 ?_; (k_extra "std"); (case r0q7 => (first | assumption | omega)); k_whole; intro t'q h'q tk'q F'q N'q; (try dsimp only); (try k_sweep)))
  k_with "m:call ref" => ((with_reducible show wpAny _ _ (call (Value.ref 530) [Value.int _ _, Value.int _ _] _) _ _ _); k_dflt (refine' fq530_new ?qFq7 ?qKq7 ?qDq7 ?qUq7 ?q1q7 ?q2q7 ?q3q7 ?q4q7 ?q5q7 ?rqq7 ?_; (k_extra "std"); (case rqq7 => (first | assumption | omega | decide)); k_whole; intro x'q dx'q t1'q t2'q t3'q t4'q h'q tk'q F'q N'q l1q l2q b1q b2q; (try dsimp only); (try k_sweep); (try k_lt l1q); (try k_lt2 l2q)))
  k_with "m:call ref" => ((with_reducible show wpAny _ _ (call (Value.ref 513) [Value.ref _, Value.int _ _] _) _ _ _); k_dflt (refine' fq530_made ?qFq7 ?qKq7 ?qDq7 ?qUq7 ?q1q7 ?q2q7 ?q3q7 ?q4q7 ?q5q7 ?rxq7 ?rdxq7 ?rqq7 ?_; (k_extra "std"); (case rxq7 => k_mem); (case rdxq7 => k_mem); (case rqq7 => (first | assumption | omega)); k_whole; intro x'q dx'q t1'q t2'q t3'q t4'q h'q tk'q F'q N'q l1q l2q b1q b2q; (try dsimp only); (try k_sweep); clear l1q l2q))
  k_with "m:call ref" => ((with_reducible show wpAny _ _ (call (Value.ref 530) [Value.int _ _, Value.int _ _] _) _ _ _); k_dflt (refine' fq530_new ?qFq7 ?qKq7 ?qDq7 ?qUq7 ?q1q7 ?q2q7 ?q3q7 ?q4q7 ?q5q7 ?rqq7 ?_; (k_extra "std"); (case rqq7 => (first | assumption | omega | decide)); k_whole; intro x'q dx'q t1'q t2'q t3'q t4'q h'q tk'q F'q N'q l1q l2q b1q b2q; (try dsimp only); (try k_sweep); clear l1q l2q))
  k_with "m:call ref" => ((with_reducible show wpAny _ _ (call (Value.ref 527) [Value.ref _] _) _ _ _); k_dflt (refine' fq530_zero ?qFq7 ?qKq7 ?qDq7 ?qUq7 ?q1q7 ?q2q7 ?q3q7 ?q4q7 ?q5q7 ?rxq7 ?rdxq7 ?rqq7 ?_; (k_extra "std"); (case rxq7 => k_mem); (case rdxq7 => k_mem); (case rqq7 => (first | assumption | omega)); k_whole; intro x'q dx'q t1'q t2'q t3'q t4'q h'q tk'q F'q N'q; (try dsimp only); (try k_sweep)))
  k_with "m:call ref" => ((with_reducible show wpAny _ _ (call (Value.ref 400) [Value.ref _, Value.ref _] _) _ _ _); k_dflt (refine' fq530_mul ?qFq7 ?qKq7 ?qDq7 ?qUq7 ?q1q7 ?q2q7 ?q3q7 ?q4q7 ?q5q7 ?rxq7 ?rdxq7 ?ryq7 ?rdyq7 ?rqq7 ?rn0q7 ?rn1q7 ?rq2q7 ?_; (k_extra "std"); (case rxq7 => k_mem); (case rdxq7 => k_mem); (case ryq7 => k_mem); (case rdyq7 => k_mem); (case rqq7 => (first | assumption | omega)); (case rn0q7 => (first | assumption | omega)); (case rn1q7 => (first | assumption | omega)); (case rq2q7 => (first | assumption | omega)); k_whole; intro x'q dx'q t1'q t2'q t3'q t4'q h'q tk'q F'q N'q b1q b2q; (try dsimp only); (try k_sweep)))
  k_with "m:call ref" => ((with_reducible show wpAny _ _ (call (Value.ref 428) [Value.ref _, Value.ref _] _) _ _ _); k_dflt (refine' fq530_sub ?qFq7 ?qKq7 ?qDq7 ?qUq7 ?q1q7 ?q2q7 ?q3q7 ?q4q7 ?q5q7 ?rxq7 ?rdxq7 ?ryq7 ?rdyq7 ?rqq7 ?rn0q7 ?rn1q7 ?rq2q7 ?_; (k_extra "std"); (case rxq7 => k_mem); (case rdxq7 => k_mem); (case ryq7 => k_mem); (case rdyq7 => k_mem); (case rqq7 => (first | assumption | omega)); (case rn0q7 => (first | assumption | omega)); (case rn1q7 => (first | assumption | omega)); (case rq2q7 => (first | assumption | omega)); k_whole; intro x'q dx'q t1'q t2'q t3'q t4'q h'q tk'q F'q N'q b1q b2q; (try dsimp only); (try k_sweep)))
  k_with "m:call ref" => ((with_reducible show wpAny _ _ (call (Value.ref 456) [Value.ref _, Value.int _ _] _) _ _ _); k_dflt (refine' fq530_pow1 ?qFq7 ?qKq7 ?qDq7 ?qUq7 ?q1q7 ?q2q7 ?q3q7 ?q4q7 ?q5q7 ?rxq7 ?rdxq7 ?rqq7 ?rn0q7 ?rn1q7 ?rq2q7 ?_; (k_extra "std"); (case rxq7 => k_mem); (case rdxq7 => k_mem); (case rqq7 => (first | assumption | omega)); (case rn0q7 => (first | assumption | omega)); (case rn1q7 => (first | assumption | omega)); (case rq2q7 => (first | assumption | omega)); k_whole; intro x'q dx'q t1'q t2'q t3'q t4'q h'q tk'q F'q N'q b1q b2q; (try dsimp only); (try k_sweep)))
  k_with "m:call ref" => ((with_reducible show wpAny _ _ (call (Value.ref 456) [Value.ref _, Value.int _ _] _) _ _ _); k_dflt (refine' fq530_pow2 ?qFq7 ?qKq7 ?qDq7 ?qUq7 ?q1q7 ?q2q7 ?q3q7 ?q4q7 ?q5q7 ?rxq7 ?rdxq7 ?rqq7 ?rn0q7 ?rn1q7 ?rq2q7 ?_; (k_extra "std"); (case rxq7 => k_mem); (case rdxq7 => k_mem); (case rqq7 => (first | assumption | omega)); (case rn0q7 => (first | assumption | omega)); (case rn1q7 => (first | assumption | omega)); (case rq2q7 => (first | assumption | omega)); k_whole; intro x'q dx'q t1'q t2'q t3'q t4'q h'q tk'q F'q N'q b1q b2q; (try dsimp only); (try k_sweep)))
  k_with "m:call ref" => ((with_reducible show wpAny _ _ (call (Value.ref 456) [Value.ref _, Value.int _ _] _) _ _ _); k_dflt (refine' fq530_pow3 ?qFq7 ?qKq7 ?qDq7 ?qUq7 ?q1q7 ?q2q7 ?q3q7 ?q4q7 ?q5q7 ?rxq7 ?rdxq7 ?rqq7 ?rn0q7 ?rn1q7 ?rq2q7 ?_; (k_extra "std"); (case rxq7 => k_mem); (case rdxq7 => k_mem); (case rqq7 => (first | assumption | omega)); (case rn0q7 => (first | assumption | omega)); (case rn1q7 => (first | assumption | omega)); (case rq2q7 => (first | assumption | omega)); k_whole; intro x'q dx'q t1'q t2'q t3'q t4'q h'q tk'q F'q N'q b1q b2q; (try dsimp only); (try k_sweep)))
  k_with "m:call ref" => ((with_reducible show wpAny _ _ (call (Value.ref 463) [Value.ref _, Value.ref _] _) _ _ _); k_dflt (refine' fq530_eq ?qFq7 ?qKq7 ?qDq7 ?qUq7 ?q1q7 ?q2q7 ?q3q7 ?q4q7 ?q5q7 ?rxq7 ?rdxq7 ?ryq7 ?rdyq7 ?_; (k_extra "std"); (case rxq7 => k_mem); (case rdxq7 => k_mem); (case ryq7 => k_mem); (case rdyq7 => k_mem); k_whole; intro h'q tk'q F'q N'q; (try dsimp only); (try k_sweep)))
  k_with "m:call ref" => ((with_reducible show wpAny _ _ (call (Value.ref 254) [Value.int _ _, Value.int _ _] _) _ _ _); k_dflt (refine' fq254_new ?qFq7 ?qKq7 ?qDq7 ?qUq7 ?q1q7 ?q2q7 ?q3q7 ?q4q7 ?q5q7 ?rqq7 ?_; (k_extra "std"); (case rqq7 => (first | assumption | omega | decide)); k_whole; intro x'q dx'q t1'q t2'q t3'q t4'q h'q tk'q F'q N'q l1q l2q b1q b2q; (try dsimp only); (try k_sweep); (try k_lt l1q); (try k_lt2 l2q)))
  k_with "m:call ref" => ((with_reducible show wpAny _ _ (call (Value.ref 254) [Value.ref _, Value.int _ _] _) _ _ _); k_dflt (refine' fq254_newfq ?qFq7 ?qKq7 ?qDq7 ?qUq7 ?q1q7 ?q2q7 ?q3q7 ?q4q7 ?q5q7 ?rxq7 ?rdxq7 ?_; (k_extra "std"); (case rxq7 => k_mem); (case rdxq7 => k_mem); k_whole; intro x'q dx'q t1'q t2'q t3'q t4'q h'q tk'q F'q N'q l1q l2q; (try dsimp only); (try k_sweep); (try k_lt l1q); (try k_lt2 l2q)))
  k_with "m:call ref" => ((with_reducible show wpAny _ _ (call (Value.ref 237) [Value.ref _, Value.int _ _] _) _ _ _); k_dflt (refine' fq254_made ?qFq7 ?qKq7 ?qDq7 ?qUq7 ?q1q7 ?q2q7 ?q3q7 ?q4q7 ?q5q7 ?rxq7 ?rdxq7 ?rqq7 ?_; (k_extra "std"); (case rxq7 => k_mem); (case rdxq7 => k_mem); (case rqq7 => (first | assumption | omega)); k_whole; intro x'q dx'q t1'q t2'q t3'q t4'q h'q tk'q F'q N'q l1q l2q b1q b2q; (try dsimp only); (try k_sweep); clear l1q l2q))
  k_with "m:call ref" => ((with_reducible show wpAny _ _ (call (Value.ref 254) [Value.int _ _, Value.int _ _] _) _ _ _); k_dflt (refine' fq254_new ?qFq7 ?qKq7 ?qDq7 ?qUq7 ?q1q7 ?q2q7 ?q3q7 ?q4q7 ?q5q7 ?rqq7 ?_; (k_extra "std"); (case rqq7 => (first | assumption | omega | decide)); k_whole; intro x'q dx'q t1'q t2'q t3'q t4'q h'q tk'q F'q N'q l1q l2q b1q b2q; (try dsimp only); (try k_sweep); clear l1q l2q))
  k_with "m:call ref" => ((with_reducible show wpAny _ _ (call (Value.ref 254) [Value.ref _, Value.int _ _] _) _ _ _); k_dflt (refine' fq254_newfq ?qFq7 ?qKq7 ?qDq7 ?qUq7 ?q1q7 ?q2q7 ?q3q7 ?q4q7 ?q5q7 ?rxq7 ?rdxq7 ?_; (k_extra "std"); (case rxq7 => k_mem); (case rdxq7 => k_mem); k_whole; intro x'q dx'q t1'q t2'q t3'q t4'q h'q tk'q F'q N'q l1q l2q; (try dsimp only); (try k_sweep); clear l1q l2q))
  k_with "m:call ref" => ((with_reducible show wpAny _ _ (call (Value.ref 139) [Value.ref _, Value.ref _] _) _ _ _); k_dflt (refine' fq254_mul ?qFq7 ?qKq7 ?qDq7 ?qUq7 ?q1q7 ?q2q7 ?q3q7 ?q4q7 ?q5q7 ?rxq7 ?rdxq7 ?ryq7 ?rdyq7 ?rqq7 ?rn0q7 ?rn1q7 ?rq2q7 ?_; (k_extra "std"); (case rxq7 => k_mem); (case rdxq7 => k_mem); (case ryq7 => k_mem); (case rdyq7 => k_mem); (case rqq7 => (first | assumption | omega)); (case rn0q7 => (first | assumption | omega)); (case rn1q7 => (first | assumption | omega)); (case rq2q7 => (first | assumption | omega)); k_whole; intro x'q dx'q t1'q t2'q t3'q t4'q h'q tk'q F'q N'q b1q b2q; (try dsimp only); (try k_sweep)))
  k_with "m:call ref" => ((with_reducible show wpAny _ _ (call (Value.ref 167) [Value.ref _, Value.ref _] _) _ _ _); k_dflt (refine' fq254_sub ?qFq7 ?qKq7 ?qDq7 ?qUq7 ?q1q7 ?q2q7 ?q3q7 ?q4q7 ?q5q7 ?rxq7 ?rdxq7 ?ryq7 ?rdyq7 ?rqq7 ?rn0q7 ?rn1q7 ?rq2q7 ?_; (k_extra "std"); (case rxq7 => k_mem); (case rdxq7 => k_mem); (case ryq7 => k_mem); (case rdyq7 => k_mem); (case rqq7 => (first | assumption | omega)); (case rn0q7 => (first | assumption | omega)); (case rn1q7 => (first | assumption | omega)); (case rq2q7 => (first | assumption | omega)); k_whole; intro x'q dx'q t1'q t2'q t3'q t4'q h'q tk'q F'q N'q b1q b2q; (try dsimp only); (try k_sweep)))
  k_with "m:call ref" => ((with_reducible show wpAny _ _ (call (Value.ref 132) [Value.ref _, Value.ref _] _) _ _ _); k_dflt (refine' fq254_add ?qFq7 ?qKq7 ?qDq7 ?qUq7 ?q1q7 ?q2q7 ?q3q7 ?q4q7 ?q5q7 ?rxq7 ?rdxq7 ?ryq7 ?rdyq7 ?rqq7 ?rn0q7 ?rn1q7 ?rq2q7 ?_; (k_extra "std"); (case rxq7 => k_mem); (case rdxq7 => k_mem); (case ryq7 => k_mem); (case rdyq7 => k_mem); (case rqq7 => (first | assumption | omega)); (case rn0q7 => (first | assumption | omega)); (case rn1q7 => (first | assumption | omega)); (case rq2q7 => (first | assumption | omega)); k_whole; intro x'q dx'q t1'q t2'q t3'q t4'q h'q tk'q F'q N'q b1q b2q; (try dsimp only); (try k_sweep)))
  k_with "m:call ref" => ((with_reducible show wpAny _ _ (call (Value.ref 188) [Value.ref _, Value.int _ _] _) _ _ _); k_dflt (refine' fq254_pow1 ?qFq7 ?qKq7 ?qDq7 ?qUq7 ?q1q7 ?q2q7 ?q3q7 ?q4q7 ?q5q7 ?rxq7 ?rdxq7 ?rqq7 ?rn0q7 ?rn1q7 ?rq2q7 ?_; (k_extra "std"); (case rxq7 => k_mem); (case rdxq7 => k_mem); (case rqq7 => (first | assumption | omega)); (case rn0q7 => (first | assumption | omega)); (case rn1q7 => (first | assumption | omega)); (case rq2q7 => (first | assumption | omega)); k_whole; intro x'q dx'q t1'q t2'q t3'q t4'q h'q tk'q F'q N'q b1q b2q; (try dsimp only); (try k_sweep)))
  k_with "m:call ref" => ((with_reducible show wpAny _ _ (call (Value.ref 188) [Value.ref _, Value.int _ _] _) _ _ _); k_dflt (refine' fq254_pow2 ?qFq7 ?qKq7 ?qDq7 ?qUq7 ?q1q7 ?q2q7 ?q3q7 ?q4q7 ?q5q7 ?rxq7 ?rdxq7 ?rqq7 ?rn0q7 ?rn1q7 ?rq2q7 ?_; (k_extra "std"); (case rxq7 => k_mem); (case rdxq7 => k_mem); (case rqq7 => (first | assumption | omega)); (case rn0q7 => (first | assumption | omega)); (case rn1q7 => (first | assumption | omega)); (case rq2q7 => (first | assumption | omega)); k_whole; intro x'q dx'q t1'q t2'q t3'q t4'q h'q tk'q F'q N'q b1q b2q; (try dsimp only); (try k_sweep)))
  k_with "m:call ref" => ((with_reducible show wpAny _ _ (call (Value.ref 188) [Value.ref _, Value.int _ _] _) _ _ _); k_dflt (refine' fq254_pow3 ?qFq7 ?qKq7 ?qDq7 ?qUq7 ?q1q7 ?q2q7 ?q3q7 ?q4q7 ?q5q7 ?rxq7 ?rdxq7 ?rqq7 ?rn0q7 ?rn1q7 ?rq2q7 ?_; (k_extra "std"); (case rxq7 => k_mem); (case rdxq7 => k_mem); (case rqq7 => (first | assumption | omega)); (case rn0q7 => (first | assumption | omega)); (case rn1q7 => (first | assumption | omega)); (case rq2q7 => (first | assumption | omega)); k_whole; intro x'q dx'q t1'q t2'q t3'q t4'q h'q tk'q F'q N'q b1q b2q; (try dsimp only); (try k_sweep)))
  k_with "m:call ref" => ((with_reducible show wpAny _ _ (call (Value.ref 195) [Value.ref _, Value.ref _] _) _ _ _); k_dflt (refine' fq254_eq ?qFq7 ?qKq7 ?qDq7 ?qUq7 ?q1q7 ?q2q7 ?q3q7 ?q4q7 ?q5q7 ?rxq7 ?rdxq7 ?ryq7 ?rdyq7 ?_; (k_extra "std"); (case rxq7 => k_mem); (case rdxq7 => k_mem); (case ryq7 => k_mem); (case rdyq7 => k_mem); k_whole; intro h'q tk'q F'q N'q; (try dsimp only); (try k_sweep)))
  k_with "m:call ref" => ((with_reducible show wpAny _ _ (call (Value.ref 254) [Value.int _ _, Value.int _ _] _) _ _ _); k_dflt (refine' fq254_new ?qFq7 ?qKq7 ?qDq7 ?qUq7 ?q1q7 ?q2q7 ?q3q7 ?q4q7 ?q5q7 ?rqq7 ?_; (k_extra "std"); (case rqq7 => (first | assumption | omega | decide)); k_whole; intro x'q dx'q t1'q t2'q t3'q t4'q h'q tk'q F'q N'q l1q l2q b1q b2q; (try dsimp only); (try k_sweep)))
  k_with "m:call ref" => ((with_reducible show wpAny _ _ (call (Value.ref 254) [Value.ref _, Value.int _ _] _) _ _ _); k_dflt (refine' fq254_newfq ?qFq7 ?qKq7 ?qDq7 ?qUq7 ?q1q7 ?q2q7 ?q3q7 ?q4q7 ?q5q7 ?rxq7 ?rdxq7 ?_; (k_extra "std"); (case rxq7 => k_mem); (case rdxq7 => k_mem); k_whole; intro x'q dx'q t1'q t2'q t3'q t4'q h'q tk'q F'q N'q l1q l2q; (try dsimp only); (try k_sweep)))
  k_with "m:call ref" => ((with_reducible show wpAny _ _ (call (Value.ref 286) [Value.ref _, Value.int _ _] _) _ _ _); k_dflt (refine' corr1_int ?qFq7 ?qKq7 ?qDq7 ?qUq7 ?q1q7 ?q2q7 ?q3q7 ?q4q7 ?q5q7 ?rxq7 ?rdxq7 ?rqq7 ?_; (k_extra "std"); (case rxq7 => k_mem); (case rdxq7 => k_mem); (case rqq7 => (first | assumption | omega)); k_whole; intro x'q dx'q t1'q t2'q t3'q t4'q h'q tk'q F'q N'q l1q l2q b1q b2q; (try dsimp only); (try k_sweep)))
  k_with "m:call ref" => ((with_reducible show wpAny _ _ (call (Value.ref 286) [Value.ref _, Value.ref _] _) _ _ _); k_dflt (refine' corr1_fq ?qFq7 ?qKq7 ?qDq7 ?qUq7 ?q1q7 ?q2q7 ?q3q7 ?q4q7 ?q5q7 ?rxq7 ?rdxq7 ?ryq7 ?rdyq7 ?_; (k_extra "std"); (case rxq7 => k_mem); (case rdxq7 => k_mem); (case ryq7 => k_mem); (case rdyq7 => k_mem); k_whole; intro x'q dx'q t1'q t2'q t3'q t4'q h'q tk'q F'q N'q l1q l2q; (try dsimp only); (try k_sweep)))
  k_with "m:call ref" => ((with_reducible show wpAny _ _ (call (Value.ref 237) [Value.ref _, Value.int _ _] _) _ _ _); k_dflt (refine' fq254_made ?qFq7 ?qKq7 ?qDq7 ?qUq7 ?q1q7 ?q2q7 ?q3q7 ?q4q7 ?q5q7 ?rxq7 ?rdxq7 ?rqq7 ?_; (k_extra "std"); (case rxq7 => k_mem); (case rdxq7 => k_mem); (case rqq7 => (first | assumption | omega)); k_whole; intro x'q dx'q t1'q t2'q t3'q t4'q h'q tk'q F'q N'q l1q l2q b1q b2q; (try dsimp only); (try k_sweep)))
  k_with "m:call ref" => ((with_reducible show wpAny _ _ (call (Value.ref 139) [Value.ref _, Value.ref _] _) _ _ _); k_dflt (refine' fq254_mulF ?qFq7 ?qKq7 ?qDq7 ?qUq7 ?q1q7 ?q2q7 ?q3q7 ?q4q7 ?q5q7 ?rxq7 ?rdxq7 ?ryq7 ?rdyq7 ?rqq7 ?rn0q7 ?rn1q7 ?rq2q7 ?_; (k_extra "std"); (case rxq7 => k_mem); (case rdxq7 => k_mem); (case ryq7 => k_mem); (case rdyq7 => k_mem); (case rqq7 => (first | assumption | omega)); (case rn0q7 => (first | assumption | omega)); (case rn1q7 => (first | assumption | omega)); (case rq2q7 => (first | assumption | omega)); k_whole; intro x'q dx'q t1'q t2'q t3'q t4'q h'q tk'q F'q N'q l1q l2q b1q b2q; (try dsimp only); (try k_sweep)))
  k_with "m:call ref" => ((with_reducible show wpAny _ _ (call (Value.ref 167) [Value.ref _, Value.ref _] _) _ _ _); k_dflt (refine' fq254_subF ?qFq7 ?qKq7 ?qDq7 ?qUq7 ?q1q7 ?q2q7 ?q3q7 ?q4q7 ?q5q7 ?rxq7 ?rdxq7 ?ryq7 ?rdyq7 ?rqq7 ?rn0q7 ?rn1q7 ?rq2q7 ?_; (k_extra "std"); (case rxq7 => k_mem); (case rdxq7 => k_mem); (case ryq7 => k_mem); (case rdyq7 => k_mem); (case rqq7 => (first | assumption | omega)); (case rn0q7 => (first | assumption | omega)); (case rn1q7 => (first | assumption | omega)); (case rq2q7 => (first | assumption | omega)); k_whole; intro x'q dx'q t1'q t2'q t3'q t4'q h'q tk'q F'q N'q l1q l2q b1q b2q; (try dsimp only); (try k_sweep)))
  k_with "m:call ref" => ((with_reducible show wpAny _ _ (call (Value.ref 132) [Value.ref _, Value.ref _] _) _ _ _); k_dflt (refine' fq254_addF ?qFq7 ?qKq7 ?qDq7 ?qUq7 ?q1q7 ?q2q7 ?q3q7 ?q4q7 ?q5q7 ?rxq7 ?rdxq7 ?ryq7 ?rdyq7 ?rqq7 ?rn0q7 ?rn1q7 ?rq2q7 ?_; (k_extra "std"); (case rxq7 => k_mem); (case rdxq7 => k_mem); (case ryq7 => k_mem); (case rdyq7 => k_mem); (case rqq7 => (first | assumption | omega)); (case rn0q7 => (first | assumption | omega)); (case rn1q7 => (first | assumption | omega)); (case rq2q7 => (first | assumption | omega)); k_whole; intro x'q dx'q t1'q t2'q t3'q t4'q h'q tk'q F'q N'q l1q l2q b1q b2q; (try dsimp only); (try k_sweep)))
  trivial
-- piece hash
section
variable {prog : Program} {w : World} {A A₀ : Around} {E : Value → Shared → Prop} {s : Shared} {K : Frag} {C L : Addr} {h₀ base : Heap} {m mg mb : Str → Option Value} {news : List (Addr × Obj)} {p : Program} {loose : List Str} {mean : ExcName → Option Value} {Q : Value → Shared → Prop}
theorem code_defCB {env : Env} {outer : List Env} {R : Result → Shared → Prop} {name qual : Str} {params : Arguments} {body : List Stmt} {scope : Scope} {dV kV doc pm cdv ct oc : Value} {an od : Option Addr} {osl : Array (Option Value)} {f : Addr} {args : Args} {binds : List (Str × Value)} (mL mC : Str → Option Value)
    (B : Below A₀ base outer h₀) (F : Fr h₀ L s.heap m) (X₀ : K.In h₀) (N : News h₀ L s.heap news) (T : Top p loose mean mg mb h₀) (hA : A.frames = some (env :: outer)) (hf : env.frame = some L) (hke : env.scope.kind = .function)
    (ho : K.lookup f = some ⟨oc, od, .func (fnOf name qual params body scope dV kV doc pm an cdv ct), osl⟩) (hcd : codeIn K cdv qual = true) (hroom : A.depth < recursionLimit)
    (hb : BindsP params.args args.pos binds)
    (hbind : BindsTo s (fnOf name qual params body scope dV kV doc pm an cdv ct) args binds) (hkind : (binds.all fun y => scope.names.lookup y.1 == some .local || scope.names.lookup y.1 == some .cell) = true)
    (hnd : ((cellsFrom 0 scope.names []).map (·.1)).Nodup)
    (eL : ∀ L', bindL (envOfC qual scope L' f cdv).kindOf binds (fun _ => none) = mL) (eC : ∀ L', bindC (envOfC qual scope L' f cdv).kindOf binds (fun _ => none) = mC)
    (h : ∀ g L' h₁ tk cells, Fr h₀ L g m → Fr g L' h₁ mL → News g L' h₁ (cells ++ news) →
      CellsAre mC (cellsFrom (L' + 1) scope.names []) cells → Below A base (env :: outer) g → K.In g → Top p loose mean mg mb g → (∀ p ∈ news, p.1 < L') →
      wpAny (model prog w) (A.deeper (envOfC qual scope L' f cdv)) (execs body (envOfC qual scope L' f cdv))
        (fun fl s' => LeaveK h₀ L m g R (match fl with | .ret v => v | _ => .none) s')
        (fun e s' => wpAny (model prog w) (A.deeper (envOfC qual scope L' f cdv)) (leaving (envOfC qual scope L' f cdv) e) (fun _ s'' => R (.error e) s'') (fun e' s'' => R (.error e') s'') s')
        { s with heap := h₁, toks := tk })
    (hco : scope.isCoroutine = false) (hgen : scope.isGenerator = false) (hk : scope.kind = .function) : codeAny (model prog w) A (.call (.ref f) args) R s :=
  code_defC B F X₀ N T hA hf hke ho hcd hroom hbind hkind hnd (fun g L' h₁ tk cells FG F' N' Y B' X' T' l => h g L' h₁ tk cells FG (eL L' ▸ F') N' (eC L' ▸ Y) B' X' T' l) hco hgen hk
end
noncomputable abbrev cellOb (v : Option Value) : Obj := { cls := .type "cell", data := .cell v }
section
variable {M : Model} {A : Around} {E : Value → Shared → Prop} {s : Shared}
theorem newEnv1 {scope : Scope} {globals : Addr} {closure : List (Str × Addr)} {x nm : Str} {v : Value} {qual : Str} {func : Option Addr} {code : Value} {builtins : Addr} {Q : Env → Shared → Prop}
    (hk : scope.kind = .function) (hcf : ∀ n, cellsFrom n scope.names closure = (nm, n) :: closure) (hpush : ∀ h : Heap, pushCells h scope.names = h.push (cellOb none)) (hx : scope.names.lookup x = some .local)
    (hQ : ∀ h', h'.Ns s.heap.objs.size (fun y => if y = x then some v else none) → (∀ b o, s.heap.get? b = some o → h'.get? b = some o) → h'.get? (s.heap.objs.size + 1) = some (cellOb none) →
      Q (newEnv scope s.heap.objs.size globals ((nm, s.heap.objs.size + 1) :: closure) qual func code none builtins) { s with heap := h', toks := s.toks + 1 }) :
    wpAny M A (newFunctionEnv scope globals closure [(x, v)] qual func code none builtins) Q E s := by
  simp only [newFunctionEnv, Option.isSome_none, Bool.false_eq_true, if_false]
  refine wpAny_bind (wpAny_alloc ?_)
  refine wpAny_bind (wpAny_layCells _ (fun name kind cells => by cases hkc : kind == NameKind.cell <;> simp [hkc]) _ _ _ _ ?_)
  rw [show ({ s with heap := s.heap.push { cls := .type "frame", data := .dict #[] } } : Shared).heap.objs.size = s.heap.objs.size + 1 from Heap.size_push ..]
  rw [hcf, hpush]
  simp only [List.forIn_cons, List.forIn_nil]
  have hns : (((s.heap.push { cls := .type "frame", data := .dict #[] }).push (cellOb none))).Ns s.heap.objs.size (fun _ => none) := (Heap.Ns.new s.heap (.type "frame")).keeps (fun b o e => Heap.get?_push_of_some _ e)
  have hp : (({ scope, locals := s.heap.objs.size, globals, cells := (nm, s.heap.objs.size + 1) :: closure, qual, func, code, frame := some s.heap.objs.size, builtins } : Env).scope.kind == .class || (({ scope, locals := s.heap.objs.size, globals, cells := (nm, s.heap.objs.size + 1) :: closure, qual, func, code, frame := some s.heap.objs.size, builtins } : Env).scope.kind == .module &&
      ({ scope, locals := s.heap.objs.size, globals, cells := (nm, s.heap.objs.size + 1) :: closure, qual, func, code, frame := some s.heap.objs.size, builtins } : Env).locals != ({ scope, locals := s.heap.objs.size, globals, cells := (nm, s.heap.objs.size + 1) :: closure, qual, func, code, frame := some s.heap.objs.size, builtins } : Env).globals)) = false := by
    show (scope.kind == .class || (scope.kind == .module && _)) = false
    rw [hk]; rfl
  refine wpAny_bind (wpAny_bind (wpAny_bind (wpAny_storeName_local (m := fun _ => none) hx hns (fun h' hn' hs' => wpAny_pure (wpAny_pure (wpAny_pure ?_))) hp)))
  have hsz : s.heap.objs.size + 1 = (s.heap.push { cls := .type "frame", data := .dict #[] }).objs.size := (Heap.size_push ..).symm
  refine hQ h' hn' (fun b o e => hs'.extBut b o (Nat.ne_of_lt (Heap.lt_size e)) (Heap.get?_push_of_some _ (Heap.get?_push_of_some _ e))) ?_
  refine hs'.extBut _ _ (Nat.succ_ne_self _) ?_
  show ((s.heap.push { cls := .type "frame", data := .dict #[] }).push (cellOb none)).get? (s.heap.objs.size + 1) = _
  rw [hsz]
  exact Heap.get?_push_size _ rfl
end
section
variable {prog : Program} {w : World} {A A₀ : Around} {s : Shared} {K : Frag} {L : Addr} {h₀ base : Heap} {m mg mb : Str → Option Value} {news : List (Addr × Obj)} {p : Program} {loose : List Str} {mean : ExcName → Option Value}
theorem code_nest1 {env : Env} {outer : List Env} {R : Result → Shared → Prop} {name qual : Str} {params : Arguments} {body : List Stmt} {scope : Scope} {cl : List (Str × Addr)} {doc pm ctv : Value} {c' : Addr} {f : Addr} {args : Args} {x nm : Str} {v : Value}
    (B : Below A₀ base outer h₀) (F : Fr h₀ L s.heap m) (X₀ : K.In h₀) (N : News h₀ L s.heap news) (T : Top p loose mean mg mb h₀) (hA : A.frames = some (env :: outer)) (hf : env.frame = some L) (hke : env.scope.kind = .function)
    (ho : (f, fnMade name qual params body scope cl doc pm c' ctv) ∈ news) (hcd : s.heap.CodeRec (.ref c') qual) (hroom : A.depth < recursionLimit)
    (hbind : BindsTo s (fnX name qual params body scope cl .none .none doc pm none (.ref c') ctv) args [(x, v)]) (hx : scope.names.lookup x = some .local)
    (hcf : ∀ n, cellsFrom n scope.names cl = (nm, n) :: cl) (hpush : ∀ h : Heap, pushCells h scope.names = h.push (cellOb none))
    (h : ∀ g L' h₁ co, co.data = .cell none → Fr h₀ L g m → Fr g L' h₁ (fun y => if y = x then some v else none) → News g L' h₁ ((L' + 1, co) :: news) → Below A base (env :: outer) g → K.In g → Top p loose mean mg mb g → (∀ p ∈ news, p.1 < L') →
      wpAny (model prog w) (A.deeper (envX qual scope L' f (.ref c') ((nm, L' + 1) :: cl))) (execs body (envX qual scope L' f (.ref c') ((nm, L' + 1) :: cl)))
        (fun fl s' => LeaveK h₀ L m g R (match fl with | .ret v => v | _ => .none) s')
        (fun e s' => wpAny (model prog w) (A.deeper (envX qual scope L' f (.ref c') ((nm, L' + 1) :: cl))) (leaving (envX qual scope L' f (.ref c') ((nm, L' + 1) :: cl)) e) (fun _ s'' => R (.error e) s'') (fun e' s'' => R (.error e') s'') s')
        { s with heap := h₁, toks := s.toks + 1 })
    (hco : scope.isCoroutine = false) (hgen : scope.isGenerator = false) (hk : scope.kind = .function) : codeAny (model prog w) A (.call (.ref f) args) R s := by
  obtain ⟨FG, BG, st, lv⟩ := groundX (R := R) B F N hA hf hke
  refine codeAny_call_function hroom (N _ ho).1 rfl hco hgen rfl hcd (hbind _ _ _ _ ?_)
  refine newEnv1 hk hcf hpush hx fun h₁ hns hk₁ hce => ?_
  refine ⟨((T.nolimit).keeps F.keep).keeps hk₁, codeAny_func ?_⟩
  refine wpAny_mono (h _ s.heap.objs.size h₁ (cellOb none) rfl FG ⟨hns, fun b o e => hk₁ b o (of_hideAll _ e), Nat.le_of_eq (hideAll_size _ _)⟩ (fun p hp => ?_) BG (X₀.keeps st) (T.keeps st) (fun p hp => Heap.lt_size (N p hp).1)) (fun fl s' hl => lv _ _ hl) fun _ _ y => y
  rcases List.mem_cons.mp hp with rfl | hp
  · refine ⟨hce, Nat.succ_ne_self _, ?_⟩
    cases q : (hideAll s.heap (news.map (·.1))).get? (s.heap.objs.size + 1) with
    | none => rfl
    | some o => exact absurd (Heap.lt_size (of_hideAll _ q)) (Nat.not_lt_of_le (Nat.le_succ _))
  · exact ⟨hk₁ _ _ (N p hp).1, Nat.ne_of_lt (Heap.lt_size (N p hp).1), hideAll_none _ (List.mem_map_of_mem hp)⟩
end
noncomputable def hashFold (ks : List Int) : Int := ks.foldl (fun a k => (a * 257 + k).fmod 1000003) 5381
structure InHash (a : Int) : Prop where
  lo : 0 ≤ a
  hi : a < 1000003
theorem hashFold_in (ks : List Int) : InHash (hashFold ks) := by
  unfold hashFold
  suffices h : ∀ (l : List Int) (a : Int), InHash a → InHash (l.foldl (fun a k => (a * 257 + k).fmod 1000003) a) from h ks 5381 ⟨by decide, by decide⟩
  intro l
  induction l with
  | nil => intro a h; exact h
  | cons k r ih => intro a h; exact ih _ ⟨Int.fmod_nonneg_of_pos _ (by decide), Int.fmod_lt_of_pos _ (by decide)⟩
section
variable {prog : Program} {w : World} {A : Around} {E : Value → Shared → Prop} {s : Shared} {env : Env} {h₀ : Heap} {x : PySem.Str} {body : List Stmt} {Q : Flow → Shared → Prop} {b : Array UInt8} {tb : Tok}
  {m₀ : PySem.Str → Option Value} {rest : List (Addr × Obj)}
theorem iterBytes_cell {c : Addr} {o₀ : Obj} {t₀ : Tok}
    (hh : A.handled = none) (F : Fr h₀ env.locals s.heap m₀) (N : News h₀ env.locals s.heap ((c, o₀) :: rest)) (hd : o₀.data = .cell (some (.int 5381 t₀))) (hne : ∀ p ∈ rest, p.1 ≠ c)
    (turn : ∀ k t a ta o h tk own, 0 ≤ k → k < 256 → InHash a → o.data = .cell (some (.int a ta)) → (∀ p ∈ rest ++ own, p.1 ≠ c) → Fr h₀ env.locals h (fun z => if z = x then some (.int k t) else m₀ z) → News h₀ env.locals h ((c, o) :: (rest ++ own)) →
      wpAny (model prog w) A (execs body env) (InvPostN h₀ env.locals (fun m' nx => (∃ o' t', nx = (c, o') :: rest ∧ InHash ((a * 257 + k).fmod 1000003) ∧ o'.data = .cell (some (.int ((a * 257 + k).fmod 1000003) t'))) ∧ ∀ z, z ≠ x → m' z = m₀ z) own (c :: rest.map (·.1)) { s with heap := h, toks := tk } Q) E { s with heap := h, toks := tk })
    (done : ∀ (u : PySem.Str → Option Value) o t h tk, o.data = .cell (some (.int (hashFold (KBw.bInts b)) t)) → Fr h₀ env.locals h (fun z => if z = x then u z else m₀ z) → News h₀ env.locals h ((c, o) :: rest) → Q .next { s with heap := h, toks := tk }) :
    wpAny (model prog w) A (pyIter (.bytes b tb)) (fun it s₂ => LoopAtV prog w A h₀ env x body Q E it s₂) E s := by
  refine KBw.iter_bytesS (ks := KBw.bInts b) (fun a m nx => (∃ o' t', nx = (c, o') :: rest ∧ InHash a ∧ o'.data = .cell (some (.int a t'))) ∧ ∀ z, z ≠ x → m z = m₀ z) (fun a k => (a * 257 + k).fmod 1000003) 5381 rfl hh F N ⟨⟨o₀, t₀, rfl, ⟨by decide, by decide⟩, hd⟩, fun _ _ => rfl⟩ ?_ ?_
  · rintro k t a m₁ nx h tk own hm0 h0 h1 hoff ⟨⟨o, ta, rfl, hia, ho⟩, hm⟩ F₁ N₁
    have em : (fun y => if y = x then some (Value.int k t) else m₁ y) = fun y => if y = x then some (Value.int k t) else m₀ y := by
      funext y
      by_cases hy : y = x
      · rw [if_pos hy, if_pos hy]
      · rw [if_neg hy, if_neg hy]; exact hm y hy
    rw [em] at F₁
    exact turn k t a ta o h tk own h0 h1 hia ho (List.forall_mem_append.mpr ⟨hne, fun p hp => hoff p hp c (.head _)⟩) F₁ N₁
  · rintro m₁ nx h tk ⟨⟨o, t, rfl, _, ho⟩, hm⟩ F₁ N₁
    refine done m₁ o t h tk ho ?_ N₁
    have em : (fun z => if z = x then m₁ z else m₀ z) = m₁ := by
      funext z
      by_cases hz : z = x
      · rw [if_pos hz]
      · rw [if_neg hz]; exact (hm z hz).symm
    rw [em]; exact F₁
end
theorem lay60 : True := by
  k_with "m:pyIter bytes" => (rename Fr _ _ _ _ => hF9; rename News _ _ _ _ => hN9q; (k_dflt (refine' iterBytes_cell ?hh9q7 hF9 hN9q ?hd9q7 ?hne9q7 ?turn9q7 ?done9q7; (case hh9q7 => exact rfl); (case hd9q7 => assumption); (case hne9q7 => assumption); k_whole)); (try clear hF9 hN9q))
  k_with "m:subscriptTail" => (k_here; (with_reducible show wpAny _ _ (subscriptTail _ (Expr.Slice _ _ none _) (Value.bytes _ _) (Value.ref _)) _ _ _); (with_reducible rename Fr _ _ _ _ => F'q); (with_reducible rename News _ _ _ _ => N'q); (refine KBc.slice_K (s := ⟨_, _, _, _, _⟩) F'q N'q rfl (by constructor) (by constructor) (by rw [KBw.ints_length]; first | assumption | omega | (simp [byteArr, rangeKs_length]; done)) ?_); intro _ _ _ _ _ kbcKq; clear kbcKq)
  k_with "m.k_all" => assumption
  trivial
noncomputable def hashBlk (D : Array UInt8) : Array UInt8 := byteArr (List.map (fun k' => ((hashFold (KBw.bInts D)).fdiv (k' + 1)).fmod 256) (rangeKs 0 7))
noncomputable def hashA (digits : Int) (D : Array UInt8) : Array UInt8 := KBy.picked ((List.replicate 11 (hashBlk D).toList).flatten).toArray none (some digits)
theorem hashBlk_size (D : Array UInt8) : (hashBlk D).size = 7 := by
  unfold hashBlk
  rw [byteArr_size, List.length_map, rangeKs_length]
theorem hash77 (D : Array UInt8) : ((List.replicate 11 (hashBlk D).toList).flatten).toArray.size = 77 := by
  have h := hashBlk_size D
  simp [List.length_flatten, h]
theorem hashA_le (digits : Int) (D : Array UInt8) : (hashA digits D).size ≤ 77 := by
  unfold hashA
  exact Nat.le_trans (KBc.size_picked_le _ _ _) (Nat.le_of_eq (hash77 D))
structure CodeW (h : Heap) (c P : Addr) : Prop where
  out : CodeHd h c P
noncomputable def IsFnO (fo : Obj) : Prop := ∃ oc od fd sl, fo = ⟨oc, od, .func fd, sl⟩
theorem fnAt_of {h₀ h : Heap} {L f : Addr} {fo : Obj} {news : List (Addr × Obj)} (N : News h₀ L h news) (hm : (f, fo) ∈ news) (hf : IsFnO fo) : FnAt f h := by
  obtain ⟨oc, od, fd, sl, rfl⟩ := hf
  exact ⟨oc, od, fd, sl, (N _ hm).1⟩
noncomputable def HashC (w : World) (digits : Int) (f : Addr) (fo : Obj) (c : Addr) (oc : Obj) (cl : Addr) (co : Obj) : Prop :=
  ∀ {p : Program} {loose : List Str} {mean : ExcName → Option Value} {mg mb : Str → Option Value} {dp un : Nat} {gd : Option (List Code)} {A₀ : Around} {env : Env} {outer : List Env} {base h₀ : Heap} {L : Addr} {m : Str → Option Value} {s : Shared} {Q E : Value → Shared → Prop} {news : List (Addr × Obj)} {D : Array UInt8} {t : Tok}
    (hf : env.frame = some L) (hke : env.scope.kind = .function) (hdp : dp ≤ 850) (hun : un ≤ 8500)
    (B : Below A₀ base outer h₀) (F : Fr h₀ L s.heap m) (X : (hd.heap_1 w.params).In h₀) (N : News h₀ L s.heap news) (T : Top p loose mean mg mb h₀)
    (_ : (f, fo) ∈ news) (_ : (c, oc) ∈ news) (_ : (cl, co) ∈ news) (_ : CodeW base 613 609) (_ : D.size ≤ 1000)
    (_ : ∀ (b : Array UInt8) (t' : Tok) (h' : Heap) (tk' : Nat), b = hashA digits D → b.size ≤ 77 → Fr h₀ L h' m → News h₀ L h' news → Q (.bytes b t') { s with heap := h', toks := tk' }),
    wpAny (model PR w) (ar dp un gd env outer) (call (.ref f) [.bytes D t]) Q E s
section
variable {w : World} {p : Program} {loose : List Str} {mean : ExcName → Option Value} {mg mb : Str → Option Value} {dp un : Nat} {gd : Option (List Code)} {A₀ : Around} {env : Env} {outer : List Env} {base h₀ : Heap} {L : Addr} {m : Str → Option Value} {s : Shared} {Q E : Value → Shared → Prop} {news : List (Addr × Obj)}
set_option maxRecDepth 100000 in
set_option maxHeartbeats 8000000 in
theorem hashmk_c {digits : Int} {td : Tok}
    (hf : env.frame = some L) (hke : env.scope.kind = .function) (hdp : dp ≤ 900) (hun : un ≤ 9000)
    (B : Below A₀ base outer h₀) (F : Fr h₀ L s.heap m) (X : (hd.heap_1 w.params).In h₀) (N : News h₀ L s.heap ((609, tabObj #[]) :: news)) (T : Top p loose mean mg mb h₀)
    (C : CodeW base 613 609) (hne : ∀ p ∈ news, p.1 ≠ 609) (hd1 : 48 ≤ digits) (hd2 : digits ≤ 71)
    (hret : ∀ (f : Addr) (fo : Obj) (c : Addr) (oc : Obj) (cl : Addr) (co : Obj) (tb : Array Value) (h' : Heap) (tk' : Nat), Fr h₀ L h' m → News h₀ L h' ((f, fo) :: (c, oc) :: (cl, co) :: (609, tabObj tb) :: news) → HashC w digits f fo c oc cl co → IsFnO fo → (∀ q ∈ (609, tabObj #[]) :: news, q.1 < cl) → @LT.lt Nat _ cl c → @LT.lt Nat _ c f → Q (.ref f) { s with heap := h', toks := tk' }) :
    wpAny (model PR w) (ar dp un gd env outer) (call (.ref 614) [.int digits td]) Q E s := by
  have C := C.out
  refine wpAny_call ?_
  (k_dflt (refine' code_defCB (fun y => none) (fun y => if y = Str.ofString "size" then some (.int digits td) else none) ?k1 ?k2 ?k3 ?k4 ?k5 ?kA ?kF ?kK ?k6 ?k7 ?k8 ?kP ?k9 ?kB ?kD ?kL ?kC ?_ ?c2 ?c3 ?c4; (case kA => exact rfl); (case kF => first | assumption | exact rfl); (case kK => first | assumption | exact rfl); (case k1 => k_asm); (case k2 => k_asm); (case k3 => k_asm); (case k4 => k_asm); (case k5 => k_asm); (case k6 => k_is); (case k7 => k_is); (case k8 => k_room); (case kP => first | exact BindsP.cons BindsP.nil | exact BindsP.cons (BindsP.cons BindsP.nil) | exact BindsP.cons (BindsP.cons (BindsP.cons BindsP.nil)) | exact BindsP.cons (BindsP.cons (BindsP.cons (BindsP.cons BindsP.nil)))); (case k9 => first | exact BindsTo.of_eq rfl | exact binds_K (by k_in) rfl (by k_is) rfl rfl rfl | fail "k_enter: no rule for these arguments"); (case kB => exact rfl); (case kD => decide +kernel); (case kL => (intro _; funext y; exact rfl)); (case kC => (intro _; funext y; exact rfl)); (case c2 => exact rfl); (case c3 => exact rfl); (case c4 => exact rfl); k_whole; intro g' L' h' tk' cells' FG' F' N' Y' B' X' T' l1; (try k_lt l1); k_cells Y'; (try simp only [List.cons_append, List.nil_append] at N'); (try dsimp only); (try k_lift B'); (first | refine let q' : Flow → Shared → Prop := _; let e' : Value → Shared → Prop := _; let o' : Around := _; let v' : Env := _; let a' : Around := Around.deeper o' v'; let s' : Shared := _; (?_ : wpAny _ a' (execs _ v') q' e' s') | skip)))
  have lq : ∀ q ∈ (609, tabObj #[]) :: news, q.1 < L' := List.forall_mem_cons.mpr ⟨l1.1, fun q hq => kst_ltOf l1.2 q hq⟩
  k_steps
  refine hret _ _ _ _ _ _ _ _ _ (by k_asm) (by k_asm) ?hc ⟨_, _, _, _, rfl⟩ (fun q hq => Nat.lt_succ_of_lt (lq q hq)) (by omega) (by omega)
  clear hret
  intro p loose mean mg mb dp un gd A₀ env outer base h₀ L m s Q E news D t hf hke hdp hun B F X N T hm1 hm2 hm3 C hD hret
  refine wpAny_call ?_
  k_dflt (refine' code_nest1 ?k1 ?k2 ?k3 ?k4 ?k5 ?kA ?kF ?kK ?k6 ?k7 ?k8 ?k9 ?kx ?kc ?kp ?_ ?c2 ?c3 ?c4; (case kA => exact rfl); (case kF => assumption); (case kK => assumption); (case k1 => k_asm); (case k2 => k_asm); (case k3 => k_asm); (case k4 => k_asm); (case k5 => k_asm); (case k6 => assumption); (case k7 => exact codeRec_news (by assumption) (by assumption) (by assumption) (by assumption)); (case k8 => k_room); (case k9 => exact BindsTo.of_eq rfl); (case kx => exact rfl); (case kc => exact fun _ => rfl); (case kp => exact fun _ => rfl); (case c2 => exact rfl); (case c3 => exact rfl); (case c4 => exact rfl); k_whole; intro g' L' h' co' d1' FG' F' N' B' X' T' l1; (have l2 : ∀ p ∈ news, p.1 ≠ L' + 1 := fun p hp => Nat.ne_of_lt (Nat.lt_succ_of_lt (l1 p hp))); clear l1; (try dsimp only); (try k_lift B'); (first | refine let q' : Flow → Shared → Prop := _; let e' : Value → Shared → Prop := _; let o' : Around := _; let v' : Env := _; let a' : Around := Around.deeper o' v'; let s' : Shared := _; (?_ : wpAny _ a' (execs _ v') q' e' s') | skip))
  k_steps
  · refine InvEndN.intro (by assumption) (by assumption) ⟨⟨?o9, ?t9, rfl, ?i1, ?i2⟩, ?i3⟩ (by rfl) ?i4 ?i5
    case i1 => exact ⟨Int.fmod_nonneg_of_pos _ (by decide), Int.fmod_lt_of_pos _ (by decide)⟩
    case i2 => assumption
    case i3 => kba_same
    case i4 => intro p hp; rcases List.mem_cons.mp hp with rfl | hp; exact .head _; exact .tail _ (List.mem_append_left _ hp)
    case i5 => exact fun p hp => .tail _ (List.mem_append_right _ hp)
  · exact hret _ _ _ _ rfl (hashA_le _ _) (by k_asm) (cb_drop (by k_asm) (by repeat (first | exact (fun _ h9 => h9) | refine sub_tail ?_)))
end

-- piece zipb
section
variable {prog : Program} {w : World} {A : Around} {E : Value → Shared → Prop} {s : Shared}
theorem bi_ext {h h' : Heap} {a d : Addr} {b : Array UInt8} {t : Tok} {i : Nat} (x : KBw.IsBytesIter h a b t i) (k : ∀ c o, c ≠ d → h.get? c = some o → h'.get? c = some o) (hn : a ≠ d) : KBw.IsBytesIter h' a b t i :=
  let ⟨o, ho, r⟩ := x; ⟨o, k a o hn ho, r⟩
theorem bi_at {h h' : Heap} {a : Addr} {b : Array UInt8} {t : Tok} {i : Nat} (x : KBw.IsBytesIter h a b t i) (k : ∀ o, h.get? a = some o → h'.get? a = some o) : KBw.IsBytesIter h' a b t i :=
  let ⟨o, ho, r⟩ := x; ⟨o, k o ho, r⟩
theorem nextOf_bytes_item {it : Addr} {b : Array UInt8} {t : Tok} {i : Nat} {c : UInt8} {Q : Value → Shared → Prop} (hit : KBw.IsBytesIter s.heap it b t i) (hx : b[i]? = some c)
    (hQ : ∀ h', KBw.IsBytesIter h' it b t (i + 1) → Heap.SameBut it s.heap h' → Q (.int (c.toNat : Int) s.toks) { s with heap := h', toks := s.toks + 1 }) : wpAny (model prog w) A (Builtin.SmallTypes.nextOf (.ref it)) Q E s := by
  obtain ⟨o, ho, hc, hd⟩ := id hit
  unfold Builtin.SmallTypes.nextOf
  refine wpAny_bind (wpAny_callSpecial?_slot (name := PySem.Str.ofString "__next__") (KBw.iter_typeIs hit) KBw.slot_next
    (wpAny_call_entry KBw.slot_next (KBw.iter_typeIs hit) KBw.entry_next ?_ (KBw.args_next _)))
  show wpAny _ _ (field (.ref it) 0 >>= _) _ _ s
  refine wpAny_bind (wpAny_field ho hd (x := .bytes b t) rfl ?_)
  show wpAny _ _ (if (Value.bytes b t == Value.none) = true then _ else _) _ _ s
  rw [if_neg (show ¬ ((Value.bytes b t == Value.none) = true) from Bool.false_ne_true)]
  show wpAny _ _ (field (.ref it) 1 >>= _) _ _ s
  refine wpAny_bind (wpAny_field ho hd (x := .int i 0) rfl ?_)
  refine wpAny_bind (wpAny_of_eq (a := b) rfl ?_)
  simp only [Int.toNat_natCast, hx]
  refine wpAny_bind (wpAny_setField ho hd (by simp) (wpAny_bind (wpAny_mkInt (wpAny_pure ⟨_, rfl, wpAny_pure (hQ _ ?_ (Heap.SameBut.update ..))⟩))))
  exact ⟨_, Heap.get?_update_self _ ho (Obj.isFreed_of_fields (Obj.data_mapFields hd _)), (Obj.cls_mapFields ..).trans hc, by
    rw [Obj.data_mapFields hd]; simp [rawInt]⟩
theorem nextOf_bytes_end {it : Addr} {b : Array UInt8} {t : Tok} {i : Nat} {Q : Value → Shared → Prop} (hh : A.handled = none) (hit : KBw.IsBytesIter s.heap it b t i) (hx : b[i]? = none)
    (hE : ∀ h' e, Heap.ExtBut it s.heap h' → (∃ o, h'.get? e = some o ∧ o.cls = .type "StopIteration") → E (.ref e) { s with heap := h' }) : wpAny (model prog w) A (Builtin.SmallTypes.nextOf (.ref it)) Q E s := by
  obtain ⟨o, ho, hc, hd⟩ := id hit
  unfold Builtin.SmallTypes.nextOf
  refine wpAny_bind (wpAny_callSpecial?_slot (name := PySem.Str.ofString "__next__") (KBw.iter_typeIs hit) KBw.slot_next
    (wpAny_call_entry KBw.slot_next (KBw.iter_typeIs hit) KBw.entry_next ?_ (KBw.args_next _)))
  show wpAny _ _ (field (.ref it) 0 >>= _) _ _ s
  refine wpAny_bind (wpAny_field ho hd (x := .bytes b t) rfl ?_)
  show wpAny _ _ (if (Value.bytes b t == Value.none) = true then _ else _) _ _ s
  rw [if_neg (show ¬ ((Value.bytes b t == Value.none) = true) from Bool.false_ne_true)]
  show wpAny _ _ (field (.ref it) 1 >>= _) _ _ s
  refine wpAny_bind (wpAny_field ho hd (x := .int i 0) rfl ?_)
  refine wpAny_bind (wpAny_of_eq (a := b) rfl ?_)
  simp only [Int.toNat_natCast, hx]
  refine wpAny_bind (wpAny_rule (wpAny_bind (wpAny_setField ho hd (by simp) ?_)))
  show wpAny _ _ (newExc (.type "StopIteration") [] >>= _) _ _ _
  refine wpAny_bind ?_
  simp only [newExc, newTuple]
  refine wpAny_bind (wpAny_newObj_type ?_ (by size_fits))
  refine wpAny_bind (m := firstArgMember _ _) (wpAny_of_eq (a := Value.none) (by first | rfl | (simp only [firstArgMember]; rfl)) ?_)
  refine wpAny_newObj_type ?_ (by size_fits)
  simp only [raiseNew]
  refine wpAny_bind (wpAny_handled ?_)
  rw [show A.in1.handled = none from hh]
  refine wpAny_bind (wpAny_pure (wpAny_throw ?_))
  exact hE _ _ (((Heap.SameBut.update ..).extBut.push _).push _) ⟨_, Heap.get?_push_size _ rfl, rfl⟩

structure ZbApart (z TI TO i1 i2 : Addr) : Prop where
  TIz : TI ≠ z
  TOz : TO ≠ z
  i1z : i1 ≠ z
  i2z : i2 ≠ z
  TITO : TI ≠ TO
  TIi1 : TI ≠ i1
  TIi2 : TI ≠ i2
  TOi1 : TO ≠ i1
  TOi2 : TO ≠ i2
  i12 : i1 ≠ i2

theorem zb_next_item {z TI TO i1 i2 : Addr} {k1 k2 : Nat} {xs ys : Array UInt8} {t1 t2 : Tok} {x y : UInt8} {a b : Value} {Q : Value → Shared → Prop} (D : ZbApart z TI TO i1 i2)
    (hz : IsZip s.heap z TI TO .none) (hTI : IsPair s.heap TI (.ref i1) (.ref i2)) (hTO : IsPair s.heap TO a b)
    (h1 : KBw.IsBytesIter s.heap i1 xs t1 k1) (h2 : KBw.IsBytesIter s.heap i2 ys t2 k2) (hx : xs[k1]? = some x) (hy : ys[k2]? = some y)
    (hQ : ∀ h' tk u1 u2, IsZip h' z TI TO (rawInt s.heap.objs.size) → IsPair h' TO (.int x.toNat u1) (.int y.toNat u2) → KBw.IsBytesIter h' i1 xs t1 (k1 + 1) → KBw.IsBytesIter h' i2 ys t2 (k2 + 1) → IsPair h' s.heap.objs.size (.int x.toNat u1) (.int y.toNat u2) → h'.objs.size = s.heap.objs.size + 1 →
      (∀ c o, c ≠ z → c ≠ TO → c ≠ i1 → c ≠ i2 → s.heap.get? c = some o → h'.get? c = some o) → Q (.ref s.heap.objs.size) { s with heap := h', toks := tk }) :
    wpAny (model prog w) A (Builtin.«zip.__next__» ⟨[.ref z], []⟩) (fun fin s' => ∃ v, fin = .done (.ret v) ∧ Q v s') E s := by
  show wpAny _ _ (field (.ref z) 2 >>= _) _ _ _
  refine wpAny_bind (wpAny_field hz rfl (x := .bool false) rfl ?_)
  show wpAny _ _ (field (.ref z) 3 >>= _) _ _ _
  refine wpAny_bind (wpAny_field hz rfl (x := .ref TI) rfl ?_)
  refine wpAny_bind (wpAny_seqItems hTI rfl ?_)
  show wpAny _ _ (Builtin.SmallTypes.ownedTupleIsFree (.ref z) >>= _) _ _ _
  refine wpAny_bind ?_
  unfold Builtin.SmallTypes.ownedTupleIsFree
  refine wpAny_bind (wpAny_field hz rfl (x := .none) rfl (wpAny_pure ?_))
  simp only [if_true]
  refine wpAny_bind (wpAny_rule ?_)
  refine wpAny_bind (wpAny_field hz rfl (x := .ref TO) rfl ?_)
  refine wpAny_bind (wpAny_setField_rec hz (by simp) fun h₁ hz₁ hs₁ => ?_)
  replace hz₁ : IsZip h₁ z TI TO .ellipsis := hz₁
  refine wpAny_bind ?_
  simp only [List.zipIdx_cons, List.zipIdx_nil, List.forIn_cons, List.forIn_nil]
  refine wpAny_bind (wpAny_bind (wpAny_onRaise ?_))
  show wpAny _ _ (Builtin.SmallTypes.nextOf (.ref i1) >>= _) _ _ _
  refine wpAny_bind (nextOf_bytes_item (bi_ext h1 hs₁.extBut D.i1z) hx fun h₂ h1₂ hs₂ => wpAny_pure ?_)
  have hTO₂ : IsPair h₂ TO a b := hs₂.extBut _ _ D.TOi1 (hs₁.extBut _ _ D.TOz hTO)
  refine wpAny_bind (wpAny_seqItems hTO₂ rfl ?_)
  refine wpAny_bind (wpAny_updateSeq_pair hTO₂ fun h₃ hTO₃ hs₃ => ?_)
  replace hTO₃ : IsPair h₃ TO (.int x.toNat s.toks) b := hTO₃
  refine wpAny_bind (wpAny_letGo (wpAny_pure ?_))
  refine wpAny_bind (wpAny_bind (wpAny_onRaise ?_))
  show wpAny _ _ (Builtin.SmallTypes.nextOf (.ref i2) >>= _) _ _ _
  refine wpAny_bind (nextOf_bytes_item (bi_ext (bi_ext (bi_ext h2 hs₁.extBut D.i2z) hs₂.extBut D.i12.symm) hs₃.extBut D.TOi2.symm) hy fun h₄ h2₄ hs₄ => wpAny_pure ?_)
  have hTO₄ : IsPair h₄ TO (.int x.toNat s.toks) b := hs₄.extBut _ _ D.TOi2 hTO₃
  refine wpAny_bind (wpAny_seqItems hTO₄ rfl ?_)
  refine wpAny_bind (wpAny_updateSeq_pair hTO₄ fun h₅ hTO₅ hs₅ => ?_)
  replace hTO₅ : IsPair h₅ TO (.int x.toNat s.toks) (.int y.toNat (s.toks + 1)) := hTO₅
  refine wpAny_bind (wpAny_letGo (wpAny_pure (wpAny_pure ?_)))
  refine wpAny_bind (wpAny_seqItems hTO₅ rfl ?_)
  refine wpAny_bind (wpAny_newTuple ?_)
  have hsz : h₅.objs.size = s.heap.objs.size := by rw [hs₅.1, hs₄.1, hs₃.1, hs₂.1, hs₁.1]
  have hz₅ : IsZip h₅ z TI TO .ellipsis := hs₅.extBut _ _ D.TOz.symm (hs₄.extBut _ _ D.i2z.symm (hs₃.extBut _ _ D.TOz.symm (hs₂.extBut _ _ D.i1z.symm hz₁)))
  have hk₅ : ∀ c o, c ≠ z → c ≠ TO → c ≠ i1 → c ≠ i2 → s.heap.get? c = some o → h₅.get? c = some o := fun c o c1 c2 c3 c4 e =>
    hs₅.extBut _ _ c2 (hs₄.extBut _ _ c4 (hs₃.extBut _ _ c2 (hs₂.extBut _ _ c3 (hs₁.extBut _ _ c1 e))))
  have h1₅ := bi_ext (bi_ext (bi_ext h1₂ hs₃.extBut D.TOi1.symm) hs₄.extBut D.i12) hs₅.extBut D.TOi1.symm
  have h2₅ := bi_ext h2₄ hs₅.extBut D.TOi2.symm
  have hzlt : z < h₅.objs.size := Heap.lt_size hz₅
  show wpAny _ _ (Builtin.SmallTypes.ownedTupleHandOut (.ref z) (.ref h₅.objs.size) >>= _) _ _ _
  refine wpAny_bind ?_
  unfold Builtin.SmallTypes.ownedTupleHandOut
  have hz₆ : IsZip (h₅.push { cls := .type "tuple", data := .seq #[.int x.toNat s.toks, .int y.toNat (s.toks + 1)] }) z TI TO .ellipsis := Heap.get?_push_of_some _ hz₅
  refine wpAny_bind (wpAny_setField_rec hz₆ (by simp) fun h₇ hz₇ hs₇ => ?_)
  replace hz₇ : IsZip h₇ z TI TO (rawInt h₅.objs.size) := hz₇
  refine wpAny_setField_rec hz₇ (by simp) fun h₈ hz₈ hs₈ => ?_
  replace hz₈ : IsZip h₈ z TI TO (rawInt h₅.objs.size) := hz₈
  have up : ∀ c o, c ≠ z → h₅.get? c = some o → h₈.get? c = some o := fun c o c1 e => hs₈.extBut _ _ c1 (hs₇.extBut _ _ c1 (Heap.get?_push_of_some _ e))
  have hT₈ : IsPair h₈ h₅.objs.size (.int x.toNat s.toks) (.int y.toNat (s.toks + 1)) := hs₈.extBut _ _ (Nat.ne_of_gt hzlt) (hs₇.extBut _ _ (Nat.ne_of_gt hzlt) (Heap.get?_push_size _ rfl))
  have hz8 : h₈.objs.size = h₅.objs.size + 1 := by rw [hs₈.1, hs₇.1, Heap.size_push]
  rw [hsz] at hz₈ hT₈ hz8
  refine wpAny_pure ⟨_, rfl, ?_⟩
  show Q (.ref h₅.objs.size) _
  rw [hsz]
  exact hQ h₈ _ _ _ hz₈ (up _ _ D.TOz hTO₅) (bi_at h1₅ fun o e => up _ o D.i1z e) (bi_at h2₅ fun o e => up _ o D.i2z e) hT₈ hz8 fun c o c1 c2 c3 c4 e => up c o c1 (hk₅ c o c1 c2 c3 c4 e)

theorem zb_next_end {z TI TO i1 i2 : Addr} {k1 k2 : Nat} {xs ys : Array UInt8} {t1 t2 : Tok} {a b : Value} {Q : Fin → Shared → Prop} (hh : A.handled = none) (D : ZbApart z TI TO i1 i2)
    (hz : IsZip s.heap z TI TO .none) (hTI : IsPair s.heap TI (.ref i1) (.ref i2)) (hTO : IsPair s.heap TO a b)
    (h1 : KBw.IsBytesIter s.heap i1 xs t1 k1) (h2 : KBw.IsBytesIter s.heap i2 ys t2 k2) (hend : xs[k1]? = none ∨ ys[k2]? = none)
    (hE : ∀ h' e tk, (∀ c o, c ≠ z → c ≠ TO → c ≠ i1 → c ≠ i2 → s.heap.get? c = some o → h'.get? c = some o) → (∃ o, h'.get? e = some o ∧ o.cls = .type "StopIteration") → E (.ref e) { s with heap := h', toks := tk }) :
    wpAny (model prog w) A (Builtin.«zip.__next__» ⟨[.ref z], []⟩) Q E s := by
  show wpAny _ _ (field (.ref z) 2 >>= _) _ _ _
  refine wpAny_bind (wpAny_field hz rfl (x := .bool false) rfl ?_)
  show wpAny _ _ (field (.ref z) 3 >>= _) _ _ _
  refine wpAny_bind (wpAny_field hz rfl (x := .ref TI) rfl ?_)
  refine wpAny_bind (wpAny_seqItems hTI rfl ?_)
  show wpAny _ _ (Builtin.SmallTypes.ownedTupleIsFree (.ref z) >>= _) _ _ _
  refine wpAny_bind ?_
  unfold Builtin.SmallTypes.ownedTupleIsFree
  refine wpAny_bind (wpAny_field hz rfl (x := .none) rfl (wpAny_pure ?_))
  simp only [if_true]
  refine wpAny_bind (wpAny_rule ?_)
  refine wpAny_bind (wpAny_field hz rfl (x := .ref TO) rfl ?_)
  refine wpAny_bind (wpAny_setField_rec hz (by simp) fun h₁ hz₁ hs₁ => ?_)
  replace hz₁ : IsZip h₁ z TI TO .ellipsis := hz₁
  refine wpAny_bind ?_
  simp only [List.zipIdx_cons, List.zipIdx_nil, List.forIn_cons, List.forIn_nil]
  refine wpAny_bind (wpAny_bind (wpAny_onRaise ?_))
  show wpAny _ _ (Builtin.SmallTypes.nextOf (.ref i1) >>= _) _ _ _
  cases hx : xs[k1]? with
  | none =>
    refine wpAny_bind (nextOf_bytes_end hh (bi_ext h1 hs₁.extBut D.i1z) hx fun h₂ e hs₂ he => ?_)
    obtain ⟨oe, hoe, hce⟩ := he
    have hz₂ : IsZip h₂ z TI TO .ellipsis := hs₂ _ _ D.i1z.symm hz₁
    have hez : e ≠ z := fun x => by subst x; rw [hz₂] at hoe; cases hoe; simp at hce
    refine wpAny_setField_rec hz₂ (by simp) fun h₃ _ hs₃ => hE h₃ e _ (fun c o c1 _ c3 _ x => hs₃.extBut _ _ c1 (hs₂ _ _ c3 (hs₁.extBut _ _ c1 x))) ⟨oe, hs₃.extBut _ _ hez hoe, hce⟩
  | some x =>
    have hy : ys[k2]? = none := by rcases hend with h | h; rw [hx] at h; cases h; exact h
    refine wpAny_bind (nextOf_bytes_item (bi_ext h1 hs₁.extBut D.i1z) hx fun h₂ h1₂ hs₂ => wpAny_pure ?_)
    have hTO₂ : IsPair h₂ TO a b := hs₂.extBut _ _ D.TOi1 (hs₁.extBut _ _ D.TOz hTO)
    refine wpAny_bind (wpAny_seqItems hTO₂ rfl ?_)
    refine wpAny_bind (wpAny_updateSeq_pair hTO₂ fun h₃ hTO₃ hs₃ => ?_)
    refine wpAny_bind (wpAny_letGo (wpAny_pure ?_))
    refine wpAny_bind (wpAny_bind (wpAny_onRaise ?_))
    show wpAny _ _ (Builtin.SmallTypes.nextOf (.ref i2) >>= _) _ _ _
    refine wpAny_bind (nextOf_bytes_end hh (bi_ext (bi_ext (bi_ext h2 hs₁.extBut D.i2z) hs₂.extBut D.i12.symm) hs₃.extBut D.TOi2.symm) hy fun h₄ e hs₄ he => ?_)
    obtain ⟨oe, hoe, hce⟩ := he
    have hz₄ : IsZip h₄ z TI TO .ellipsis := hs₄ _ _ D.i2z.symm (hs₃.extBut _ _ D.TOz.symm (hs₂.extBut _ _ D.i1z.symm hz₁))
    have hez : e ≠ z := fun x => by subst x; rw [hz₄] at hoe; cases hoe; simp at hce
    refine wpAny_setField_rec hz₄ (by simp) fun h₅ _ hs₅ => hE h₅ e _ (fun c o c1 c2 c3 c4 x => hs₅.extBut _ _ c1 (hs₄ _ _ c4 (hs₃.extBut _ _ c2 (hs₂.extBut _ _ c3 (hs₁.extBut _ _ c1 x))))) ⟨oe, hs₅.extBut _ _ hez hoe, hce⟩

theorem zb_walks (hh : A.handled = none) (z TI TO i1 i2 : Addr) (D : ZbApart z TI TO i1 i2) (xs ys : Array UInt8) (t1 t2 : Tok) :
    WalksT prog w A z [z, TI, TO, i1, i2] [z, TO, i1, i2] (min xs.size ys.size)
      (fun i vals => ∃ (x y : UInt8) (u1 u2 : Tok), xs[i]? = some x ∧ ys[i]? = some y ∧ vals = #[.int (x.toNat : Int) u1, .int (y.toNat : Int) u2])
      (fun i h => IsZip h z TI TO .none ∧ IsPair h TI (.ref i1) (.ref i2) ∧ (∃ a b, IsPair h TO a b) ∧ KBw.IsBytesIter h i1 xs t1 i ∧ KBw.IsBytesIter h i2 ys t2 i)
      (fun i T h => IsZip h z TI TO (rawInt T) ∧ IsPair h TI (.ref i1) (.ref i2) ∧ (∃ a b, IsPair h TO a b) ∧ KBw.IsBytesIter h i1 xs t1 (i + 1) ∧ KBw.IsBytesIter h i2 ys t2 (i + 1) ∧
        T ≠ z ∧ T ≠ TO ∧ T ≠ i1 ∧ T ≠ i2) where
  sub := fun c hc => by simp at hc ⊢; rcases hc with rfl | rfl | rfl | rfl <;> simp
  frame := fun i h h' hst hk => by
    obtain ⟨hz, hTI, ⟨a, b, hTO⟩, h1, h2⟩ := hst
    exact ⟨hk z (by simp) _ hz, hk TI (by simp) _ hTI, ⟨a, b, hk TO (by simp) _ hTO⟩, bi_at h1 fun o e => hk i1 (by simp) o e, bi_at h2 fun o e => hk i2 (by simp) o e⟩
  item := fun i s Q E hi hst hQ => by
    obtain ⟨hz, hTI, ⟨a, b, hTO⟩, h1, h2⟩ := hst
    have hix : i < xs.size := Nat.lt_of_lt_of_le hi (Nat.min_le_left ..)
    have hiy : i < ys.size := Nat.lt_of_lt_of_le hi (Nat.min_le_right ..)
    have hT : s.TypeIs (.ref z) "zip" := ⟨_, hz, rfl⟩
    have lt : ∀ {c o}, s.heap.get? c = some o → s.heap.objs.size ≠ c := fun e => Nat.ne_of_gt (Heap.lt_size e)
    unfold pyNext
    refine wpAny_bind (wpAny_attempt (wpAny_callSpecial?_slot (name := Str.ofString "__next__") hT F.slot_zip_next
      (wpAny_call_entry F.slot_zip_next hT F.entry_zip_next
        (zb_next_item D hz hTI hTO h1 h2 (Array.getElem?_eq_getElem hix) (Array.getElem?_eq_getElem hiy) fun h' tk u1 u2 a1 a2 a3 a4 a5 a6 hk => wpAny_pure ?_) (F.args_zip_next_1 _))))
    exact hQ s.heap.objs.size _ h' tk ⟨_, _, u1, u2, Array.getElem?_eq_getElem hix, Array.getElem?_eq_getElem hiy, rfl⟩ (Nat.le_refl _) ⟨_, a5, rfl, _, rfl⟩
      ⟨a1, hk _ _ D.TIz D.TITO D.TIi1 D.TIi2 hTI, ⟨_, _, a2⟩, a3, a4,
        lt hz, lt hTO, (by obtain ⟨_, e, _⟩ := h1; exact lt e), (by obtain ⟨_, e, _⟩ := h2; exact lt e)⟩
      fun c o hc e => hk c o (fun x => hc (by simp [x])) (fun x => hc (by simp [x])) (fun x => hc (by simp [x])) (fun x => hc (by simp [x])) e
  go := fun elts k pos i T s Q E hm hQ => by
    obtain ⟨hz, hTI, ⟨a, b, hTO⟩, h1, h2, _⟩ := hm
    refine wpAny_letOwnedTupleGo_zip hz fun h' hz' hs' => hQ h' ⟨hz', hs'.extBut _ _ D.TIz hTI, ⟨a, b, hs'.extBut _ _ D.TOz hTO⟩, bi_ext h1 hs'.extBut D.i1z, bi_ext h2 hs'.extBut D.i2z⟩
      fun c o hc e => hs'.extBut _ _ (fun x => hc (by simp [x])) e
  apart := fun i T h hm hT => by
    obtain ⟨_, _, _, _, _, t1, t2, t3, t4⟩ := hm
    simp at hT
    rcases hT with rfl | rfl | rfl | rfl
    · exact t1 rfl
    · exact t2 rfl
    · exact t3 rfl
    · exact t4 rfl
  done := fun s Q E hst hQ => by
    obtain ⟨hz, hTI, ⟨a, b, hTO⟩, h1, h2⟩ := hst
    have hend : xs[min xs.size ys.size]? = none ∨ ys[min xs.size ys.size]? = none := by
      rcases Nat.le_total xs.size ys.size with h | h
      · exact .inl (by rw [Nat.min_eq_left h]; exact Array.getElem?_eq_none (Nat.le_refl _))
      · exact .inr (by rw [Nat.min_eq_right h]; exact Array.getElem?_eq_none (Nat.le_refl _))
    have hT : s.TypeIs (.ref z) "zip" := ⟨_, hz, rfl⟩
    unfold pyNext
    refine wpAny_bind (wpAny_attempt (wpAny_callSpecial?_slot (name := Str.ofString "__next__") hT F.slot_zip_next
      (wpAny_call_entry F.slot_zip_next hT F.entry_zip_next (zb_next_end hh D hz hTI hTO h1 h2 hend fun h' e tk hk he => ?_) (F.args_zip_next_1 _))))
    obtain ⟨o, ho, hc⟩ := he
    refine wpAny_bind (wpAny_isInstance (T := "StopIteration") (b := true) ⟨o, ho, hc⟩ isSubtype_stop ?_)
    exact wpAny_pure (hQ h' tk fun c o hc e => hk c o (fun x => hc (by simp [x])) (fun x => hc (by simp [x])) (fun x => hc (by simp [x])) (fun x => hc (by simp [x])) e)
  self := fun i s Q E hst hQ => wpAny_pyIter_zip hst.1 hQ
end
noncomputable abbrev zbObj (b : Array UInt8) (t : Tok) : Obj := { cls := .type "bytes_iterator", data := .fields #[.bytes b t, .int 0 0] }
noncomputable abbrev zbH1 (h : Heap) (x : Array UInt8) (t : Tok) : Heap := h.push (zbObj x t)
noncomputable abbrev zbH2 (h : Heap) (x : Array UInt8) (t : Tok) (y : Array UInt8) (u : Tok) : Heap := (zbH1 h x t).push (zbObj y u)
noncomputable abbrev zbH3 (h : Heap) (x : Array UInt8) (t : Tok) (y : Array UInt8) (u : Tok) : Heap := (zbH2 h x t y u).push { cls := .type "tuple", data := .seq #[.ref h.objs.size, .ref (zbH1 h x t).objs.size] }
noncomputable abbrev zbH4 (h : Heap) (x : Array UInt8) (t : Tok) (y : Array UInt8) (u : Tok) : Heap := (zbH3 h x t y u).push { cls := .type "tuple", data := .seq #[.none, .none] }
noncomputable abbrev zbH5 (h : Heap) (x : Array UInt8) (t : Tok) (y : Array UInt8) (u : Tok) : Heap := (zbH4 h x t y u).push { cls := .type "zip", data := .fields #[.none, .bool false, .bool false, .ref (zbH2 h x t y u).objs.size, .ref (zbH3 h x t y u).objs.size] }
noncomputable abbrev zgH1 (h : Heap) (o1 : Obj) : Heap := h.push o1
noncomputable abbrev zgH2 (h : Heap) (o1 o2 : Obj) : Heap := (zgH1 h o1).push o2
noncomputable abbrev zgH3 (h : Heap) (o1 o2 : Obj) : Heap := (zgH2 h o1 o2).push { cls := .type "tuple", data := .seq #[.ref h.objs.size, .ref (zgH1 h o1).objs.size] }
noncomputable abbrev zgH4 (h : Heap) (o1 o2 : Obj) : Heap := (zgH3 h o1 o2).push { cls := .type "tuple", data := .seq #[.none, .none] }
noncomputable abbrev zgH5 (h : Heap) (o1 o2 : Obj) : Heap := (zgH4 h o1 o2).push { cls := .type "zip", data := .fields #[.none, .bool false, .bool false, .ref (zgH2 h o1 o2).objs.size, .ref (zgH3 h o1 o2).objs.size] }
theorem meets_zipg_new (v1 v2 : Value) (o1 o2 : Obj)
    (e1 : ∀ (prog : Program) (w : World) (A : Around) (E : Value → Shared → Prop) (s : Shared) (Q : Value → Shared → Prop), Q (.ref s.heap.objs.size) { s with heap := s.heap.push o1 } → wpAny (model prog w) A (pyIter v1) Q E s)
    (e2 : ∀ (prog : Program) (w : World) (A : Around) (E : Value → Shared → Prop) (s : Shared) (Q : Value → Shared → Prop), Q (.ref s.heap.objs.size) { s with heap := s.heap.push o2 } → wpAny (model prog w) A (pyIter v2) Q E s) :
    Meets (Builtin.«zip.__new__» ⟨[.type "zip", v1, v2], []⟩) (fun _ R s => R (.ok (.ret (.ref (zgH4 s.heap o1 o2).objs.size))) { s with heap := zgH5 s.heap o1 o2 }) :=
  .of_wp fun prog w A R s h => by
    obtain ⟨hp, g, d, tk, os⟩ := s
    have hsub := sub_zip
    repeat (first | with_reducible refine e1 _ _ _ _ _ _ ?_ | with_reducible refine e2 _ _ _ _ _ _ ?_ | with_reducible refine wpAny_pure ?_ | with_reducible refine wpAny_bind ?_ | with_reducible refine wpAny_holding ?_ | with_reducible refine wpAny_standAt ?_ | with_reducible refine wpAny_point ?_ | with_reducible refine wpAny_rule ?_ | with_reducible refine wpAny_fresh' ?_ | with_reducible refine wpAny_alloc' ?_ | with_reducible refine wpAny_of_eq (by assumption) ?_ | wp_delta | ((with_reducible refine wpAny_ite_false ?_ ?_); focus (rfl; done)) | ((with_reducible refine wpAny_ite_true ?_ ?_); focus (rfl; done)) | ((with_reducible refine wpAny_ite_false ?_ ?_); focus (simp [*]; done)) | ((with_reducible refine wpAny_ite_true ?_ ?_); focus (simp [*]; done)) | wp_step)
    exact ⟨_, rfl, h⟩
theorem meets_zipb_new (x : Array UInt8) (t : Tok) (y : Array UInt8) (u : Tok) :
    Meets (Builtin.«zip.__new__» ⟨[.type "zip", .bytes x t, .bytes y u], []⟩) (fun _ R s => R (.ok (.ret (.ref (zbH4 s.heap x t y u).objs.size))) { s with heap := zbH5 s.heap x t y u }) :=
  meets_zipg_new _ _ (zbObj x t) (zbObj y u) (fun _ _ _ _ _ _ h => KBw.pyIter_bytes h) (fun _ _ _ _ _ _ h => KBw.pyIter_bytes h)
section
variable {prog : Program} {w : World} {A : Around} {E : Value → Shared → Prop} {s : Shared}
theorem call_zipb {x y : Array UInt8} {t u : Tok} {Q : Value → Shared → Prop}
    (h : ∀ h', IsZip h' (s.heap.objs.size + 4) (s.heap.objs.size + 2) (s.heap.objs.size + 3) .none → IsPair h' (s.heap.objs.size + 2) (.ref s.heap.objs.size) (.ref (s.heap.objs.size + 1)) →
      IsPair h' (s.heap.objs.size + 3) .none .none → KBw.IsBytesIter h' s.heap.objs.size x t 0 → KBw.IsBytesIter h' (s.heap.objs.size + 1) y u 0 → h'.objs.size = s.heap.objs.size + 5 →
      (∀ c o, s.heap.get? c = some o → h'.get? c = some o) → Q (.ref (s.heap.objs.size + 4)) { s with heap := h' }) :
    wpAny (model prog w) A (call (.type "zip") [.bytes x t, .bytes y u]) Q E s := by
  refine callType_new F.called_zip (by decide) (F.typeCall_zip_2 _ _) (F.newCall_zip_2 _ _) (fun obj => F.args_object_init_3 obj _ _) F.entry_zip_new
    (meets_zipb_new x t y u) ?_
  have z1 : (zbH1 s.heap x t).objs.size = s.heap.objs.size + 1 := Heap.size_push ..
  have z2 : (zbH2 s.heap x t y u).objs.size = s.heap.objs.size + 2 := by rw [Heap.size_push, z1]
  have z3 : (zbH3 s.heap x t y u).objs.size = s.heap.objs.size + 3 := by rw [Heap.size_push, z2]
  have z4 : (zbH4 s.heap x t y u).objs.size = s.heap.objs.size + 4 := by rw [Heap.size_push, z3]
  have z5 : (zbH5 s.heap x t y u).objs.size = s.heap.objs.size + 5 := by rw [Heap.size_push, z4]
  have g5 : (zbH5 s.heap x t y u).get? (zbH4 s.heap x t y u).objs.size = some _ := Heap.get?_push_size _ rfl
  have g4 : (zbH5 s.heap x t y u).get? (zbH3 s.heap x t y u).objs.size = some _ := Heap.get?_push_of_some _ (Heap.get?_push_size _ rfl)
  have g3 : (zbH5 s.heap x t y u).get? (zbH2 s.heap x t y u).objs.size = some _ := Heap.get?_push_of_some _ (Heap.get?_push_of_some _ (Heap.get?_push_size _ rfl))
  have g2 : (zbH5 s.heap x t y u).get? (zbH1 s.heap x t).objs.size = some _ := Heap.get?_push_of_some _ (Heap.get?_push_of_some _ (Heap.get?_push_of_some _ (Heap.get?_push_size _ rfl)))
  have g1 : (zbH5 s.heap x t y u).get? s.heap.objs.size = some _ := Heap.get?_push_of_some _ (Heap.get?_push_of_some _ (Heap.get?_push_of_some _ (Heap.get?_push_of_some _ (Heap.get?_push_size _ rfl))))
  show _ ∧ _
  rw [z2, z3, z4] at g5
  rw [z1, z2] at g3
  rw [z3] at g4
  rw [z1] at g2
  rw [z4]
  exact ⟨⟨_, g5, rfl⟩, h _ g5 g3 g4 ⟨_, g1, rfl, rfl⟩ ⟨_, g2, rfl, rfl⟩ z5 fun c o x =>
    Heap.get?_push_of_some _ (Heap.get?_push_of_some _ (Heap.get?_push_of_some _ (Heap.get?_push_of_some _ (Heap.get?_push_of_some _ x))))⟩
end

-- piece bgen
namespace FB2
theorem gen_no_bytes : typeLookup (.type "generator") "__bytes__" = pure none := by rw [typeLookup_type, builtinLookup_eq_fast]; kernel_rfl
theorem gen_no_index : typeLookup (.type "generator") "__index__" = pure none := by rw [typeLookup_type, builtinLookup_eq_fast]; kernel_rfl
theorem gen_no_buffer : typeLookup (.type "generator") "__buffer__" = pure none := by rw [typeLookup_type, builtinLookup_eq_fast]; kernel_rfl
end FB2
section
variable {prog : Program} {w : World} {A : Around} {E : Value → Shared → Prop} {s : Shared}
variable {I : Addr} {fp wr : List Addr} {G : Array GenState → Array GenState → Prop} {n : Nat} {P : Nat → Value → Prop} {St : Nat → Shared → Prop}
theorem bg_loop {R : Result → Shared → Prop} (W : WalksS prog w A.in1 I fp wr G n P St) (val : Nat → Int) (hv : ∀ i v, P i v → ∃ t, v = .int (val i) t) (hr : ∀ i, i < n → 0 ≤ val i ∧ val i < 256) (hn : n ≤ sizeLine) (S : Addr) (hSf : S ∉ fp) :
    ∀ (k i : Nat) (s : Shared), n - i = k → i ≤ n → St i s → s.heap.get? S = some { cls := .type "bytearray", data := .bytearray (byteArr ((List.range i).map val)) } →
      (∀ s' t, Moved (S :: wr) G s s' → R (.ok (.ret (.bytes (byteArr ((List.range n).map val)) t))) s') →
      codeAny (model prog w) A (.builtin "bytes.__new__.loop" ⟨[.type "bytes", .ref I, .ref S], []⟩) R s := by
  have hSw : S ∉ wr := fun h => hSf (W.sub _ h)
  have hsub : ∀ b ∈ wr, b ∈ S :: wr := fun b hb => List.mem_cons_of_mem _ hb
  intro k
  induction k with
  | zero =>
    intro i s hk hi hst hS hR
    have hin : i = n := by omega
    subst hin
    refine codeAny_builtin F.bm_entry_loop ?_
    rw [Around.under_plainId F.bm_plain_loop _]
    show wpAny _ A.in1 (pyNext (.ref I) >>= _) _ _ s
    refine wpAny_bind (W.done s _ _ hst fun s' hm => ?_)
    have hS' := hm.heap S _ hSw hS
    refine wpAny_bind ?_
    unfold Builtin.Bytes.payload Builtin.Bytes.payload?
    refine wpAny_bind (wpAny_bind (wpAny_load hS' ?_))
    refine wpAny_pure (wpAny_pure ?_)
    refine wpAny_bind (wpAny_mkBytes ?_ (by rw [byteArr_size, List.length_map, List.length_range]; exact hn))
    show wpAny _ _ (if (Value.type "bytes" == Value.type "bytes") = true then _ else _) _ _ _
    refine bm_if_true (by decide) ?_
    exact wpAny_pure (hR _ _ ((hm.mono hsub).then_heap (Nat.le_succ _) fun b o _ e => e))
  | succ k ih =>
    intro i s hk hi hst hS hR
    have hlt : i < n := by omega
    refine codeAny_builtin F.bm_entry_loop ?_
    rw [Around.under_plainId F.bm_plain_loop _]
    show wpAny _ A.in1 (pyNext (.ref I) >>= _) _ _ s
    refine wpAny_bind (W.item i s _ _ hlt hst fun v s' hP hst' hm => ?_)
    obtain ⟨t, rfl⟩ := hv i v hP
    obtain ⟨h0, h1⟩ := hr i hlt
    have hS' := hm.heap S _ hSw hS
    refine wpAny_bind (wpAny_holding (wpAny_of_eq (rfl : asIndex (.int (val i) t) = pure (val i)) ?_))
    refine wpAny_bind (wpAny_letGo ?_)
    refine bm_if_false (by simp only [Bool.or_eq_false_iff, decide_eq_false_iff_not]; omega) ?_
    refine wpAny_bind ?_
    show wpAny _ _ (updateBytearray S (·.push (val i).toNat.toUInt8)) _ _ _
    unfold updateBytearray
    refine wpAny_bind (wpAny_load hS' ?_)
    show wpAny _ _ (update S (Obj.mapBytearray (·.push (val i).toNat.toUInt8)) >>= fun _ => lookBehind S) _ _ _
    refine wpAny_bind (wpAny_update hS' ?_)
    have hS₂ : (s'.heap.update S (Obj.mapBytearray (·.push (val i).toNat.toUInt8))).get? S = some { cls := .type "bytearray", data := .bytearray (byteArr ((List.range (i + 1)).map val)) } := by
      have e : byteArr ((List.range (i + 1)).map val) = (byteArr ((List.range i).map val)).push (val i).toNat.toUInt8 := by
        unfold byteArr
        rw [List.range_succ]; simp
      rw [e]
      exact Heap.get?_update_self (Obj.mapBytearray (·.push (val i).toNat.toUInt8)) hS' rfl
    refine wpAny_lookBehind hS₂ ?_ ?_
    · show (if (byteArr ((List.range (i + 1)).map val)).size > sizeLine then some "bytearray:memory" else none) = none
      rw [if_neg]
      rw [byteArr_size, List.length_map, List.length_range]
      omega
    · refine wpAny_pure ⟨plainId_quiet F.bm_plain_loop _, ih (i + 1) _ (by omega) hlt (W.frame _ s' _ s'.toks hst' (Nat.le_refl _) fun b hb o e => ?_) hS₂ fun s'' t' hm'' => ?_⟩
      · exact (Heap.get?_update_other _ _ (fun h : S = b => hSf (by rw [h]; exact hb))).trans e
      · refine hR s'' t' (Moved.trans W.gtrans ((hm.mono hsub).then_heap (Nat.le_refl _) fun b o hb e => ?_) hm'')
        exact (Heap.get?_update_other _ _ (fun h : S = b => hb (by rw [h]; exact List.mem_cons_self))).trans e
theorem bg_new {Q : Value → Shared → Prop} (W : WalksS prog w A.in1 I fp wr G n P St) (hG : ∀ i s, St i s → ∃ g, s.heap.IsGen I g) (hst : St 0 s) (hfp : ∀ b ∈ fp, b < s.heap.objs.size)
    (val : Nat → Int) (hv : ∀ i v, P i v → ∃ t, v = .int (val i) t) (hr : ∀ i, i < n → 0 ≤ val i ∧ val i < 256) (hn : n ≤ sizeLine)
    (hQ : ∀ s' t, Moved wr G s s' → Q (.bytes (byteArr ((List.range n).map val)) t) s') :
    codeAny (model prog w) A (.call (.builtin "bytes.__new__") ⟨[.type "bytes", .ref I], []⟩) (wants Q E) s := by
  refine codeAny_of_tree ?_
  show wpAny _ A.in1 (do checkBuiltinCall "bytes.__new__" ⟨[.type "bytes", .ref I], []⟩; again (.builtin "bytes.__new__" ⟨[.type "bytes", .ref I], []⟩)) _ _ s
  refine wpAny_bind (wpAny_of_eq (F.bm_newCall _) (wpAny_pure ⟨plainId_quiet F.bm_plain _, codeAny_builtin F.bm_entry ?_⟩))
  rw [Around.under_plainId F.bm_plain _]
  have hT : ∀ i s, St i s → s.TypeIs (.ref I) "generator" := fun i s h => let ⟨g, o, nm, qn, e, c, _⟩ := hG i s h; ⟨o, e, c⟩
  have hT₀ : s.TypeIs (.ref I) "generator" := hT 0 s hst
  obtain ⟨g, oI, nm, qn, hoI, hcI, hdI, _⟩ := hG 0 s hst
  unfold Builtin.«bytes.__new__»
  refine wpAny_bind (wpAny_of_eq (a := true) rfl ?_)
  refine bm_if_false rfl ?_
  refine wpAny_bind (wpAny_of_eq F.bm_sub ?_)
  refine bm_if_false rfl ?_
  refine wpAny_bind (wpAny_of_eq (F.bm_bind _) ?_)
  refine wpAny_bind (wpAny_of_eq (a := ()) rfl ?_)
  refine wpAny_bind (wpAny_of_eq (a := ()) rfl ?_)
  refine bm_if_false rfl ?_
  refine wpAny_bind (wpAny_specialOf hT₀ FB2.gen_no_bytes ?_)
  refine wpAny_bind (wpAny_bind ?_)
  show wpAny _ _ (load I >>= _) _ _ _
  refine wpAny_bind (wpAny_load hoI ?_)
  rw [hdI]
  refine wpAny_pure (wpAny_pure ?_)
  refine bm_if_false rfl ?_
  refine wpAny_bind (wpAny_specialOf hT₀ FB2.gen_no_index ?_)
  refine bm_if_true rfl ?_
  first
    | show wpAny _ _ (Builtin.Bytes.buffer? "bytes.__new__" (.ref I) true >>= _) _ _ _
    | (refine wpAny_bind ?_; show wpAny _ _ (Builtin.Bytes.buffer? "bytes.__new__" (.ref I) true >>= _) _ _ _)
  refine wpAny_bind ?_
  unfold Builtin.Bytes.buffer?
  refine wpAny_bind (wpAny_specialOf hT₀ FB2.gen_no_buffer ?_)
  refine wpAny_bind (wpAny_specialOf hT₀ FB2.gen_no_buffer ?_)
  refine wpAny_pure ?_
  refine wpAny_bind (wpAny_tryCatch (W.self 0 _ _ _ hst ?_))
  refine wpAny_bind (wpAny_holding ?_)
  unfold Builtin.Bytes.lengthHint
  refine wpAny_bind (wpAny_specialOf hT₀ F.gen_no_len ?_)
  dsimp only
  refine bm_if_false (by decide +kernel) ?_
  refine bm_if_false rfl ?_
  refine wpAny_bind (wpAny_specialOf hT₀ F.gen_no_hint ?_)
  refine wpAny_pure ?_
  refine wpAny_bind ?_
  unfold Builtin.Bytes.newBytearray
  refine wpAny_newObj_type ?_ (Nat.zero_le _)
  have hSf : s.heap.objs.size ∉ fp := fun hm => Nat.lt_irrefl _ (hfp _ hm)
  have main := bg_loop (prog := prog) (w := w) (A := A) (R := wants Q E) W val hv hr hn s.heap.objs.size hSf n 0 { s with heap := s.heap.push { cls := .type "bytearray", data := .bytearray #[] } } rfl (Nat.zero_le _)
    (W.frame 0 s _ s.toks hst (Nat.le_refl _) fun b _ o e => Heap.get?_push_of_some _ e) (Heap.get?_push_size _ rfl)
    fun s' t hm => hQ s' t ((Moved.drop_new (tk := s.toks) hm (Nat.le_refl _)))
  first
    | exact wpAny_pure ⟨plainId_quiet F.bm_plain_loop _, main⟩
    | exact wpAny_pure (wpAny_pure ⟨plainId_quiet F.bm_plain_loop _, main⟩)
theorem call_bytes_gen {Q : Value → Shared → Prop} (W : WalksS prog w A.in1.in1.in1 I fp wr G n P St) (hG : ∀ i s, St i s → ∃ g, s.heap.IsGen I g) (hst : St 0 s) (hfp : ∀ b ∈ fp, b < s.heap.objs.size)
    (val : Nat → Int) (hv : ∀ i v, P i v → ∃ t, v = .int (val i) t) (hr : ∀ i, i < n → 0 ≤ val i ∧ val i < 256) (hn : n ≤ sizeLine)
    (hQ : ∀ s' t, Moved wr G s s' → Q (.bytes (byteArr ((List.range n).map val)) t) s') : wpAny (model prog w) A (call (.type "bytes") [.ref I]) Q E s := by
  refine callType_codes (Q₁ := fun obj s₁ => s₁.TypeIs obj "bytes" ∧ Q obj s₁) F.bm_called (F.bm_typeCall _) F.entry_object_init
    (bg_new (WalksS.of_in1 (A := A.in1.in1) W) hG hst hfp val hv hr hn fun s' t hm => ⟨PySem.W.typeIs_bytes _ _ _, hQ s' t hm⟩) fun obj s₁ h₁ => ?_
  exact ⟨h₁.1, F.args_object_init_2 obj _, object_init_meets F.bm_called.init.lookup F.bm_called.made (by decide) prog w A.in1 _ s₁ ⟨h₁.1, rfl, h₁.2⟩⟩
end

-- piece xgen
theorem xor_lt : ∀ (n x y : Nat), x < 2 ^ n → y < 2 ^ n → x + y < 2 ^ n + 2 * (x &&& y)
  | 0, x, y, h1, h2 => by
    have : x = 0 := by omega
    have : y = 0 := by omega
    subst_vars; decide
  | n + 1, x, y, h1, h2 => by
    have h := xor_lt n (x / 2) (y / 2) (by omega) (by omega)
    have e1 : (x &&& y) / 2 = x / 2 &&& y / 2 := Nat.and_div_two
    have e2 : (x &&& y) % 2 = 1 ↔ x % 2 = 1 ∧ y % 2 = 1 := Nat.and_mod_two_eq_one
    omega
theorem bitXor_byte {x y : Nat} (hx : x < 256) (hy : y < 256) : 0 ≤ Builtin.bitXor (x : Int) (y : Int) ∧ Builtin.bitXor (x : Int) (y : Int) < 256 := by
  have h : x + y < 256 + 2 * (x &&& y) := xor_lt 8 x y hx hy
  have h1 : x &&& y ≤ x := Nat.and_le_left
  have h2 : x &&& y ≤ y := Nat.and_le_right
  rw [PyProof.Rows.bitXor_and, bitAnd_pp (by omega) (by omega)]
  simp only [Int.toNat_natCast]
  omega
noncomputable def xorInts (x y : Array UInt8) : List Int := List.zipWith (fun a b => Builtin.bitXor a b) (KBw.bInts x) (KBw.bInts y)
noncomputable def xorA (x y : Array UInt8) : Array UInt8 := byteArr (xorInts x y)
noncomputable def xorAt (x y : Array UInt8) (i : Nat) : Int := Builtin.bitXor ((x.getD i 0).toNat : Int) ((y.getD i 0).toNat : Int)
theorem xorInts_eq (x y : Array UInt8) : (List.range (min x.size y.size)).map (xorAt x y) = xorInts x y := by
  unfold xorInts KBw.bInts
  refine List.ext_getElem ?_ ?_
  · simp
  · intro i h1 h2
    simp only [List.length_map, List.length_range] at h1
    have hx : i < x.size := Nat.lt_of_lt_of_le h1 (Nat.min_le_left ..)
    have hy : i < y.size := Nat.lt_of_lt_of_le h1 (Nat.min_le_right ..)
    simp [xorAt, hx, hy]
theorem xorAt_in (x y : Array UInt8) (i : Nat) : 0 ≤ xorAt x y i ∧ xorAt x y i < 256 := bitXor_byte (x.getD i 0).toNat_lt (y.getD i 0).toNat_lt
theorem xorA_size (x y : Array UInt8) : (xorA x y).size = min x.size y.size := by
  unfold xorA
  rw [byteArr_size, ← xorInts_eq]; simp
noncomputable def TabX (pos : Pos) (ps : Array Value) : Prop := ps = #[] ∨ ∃ c' : Addr, ps = #[rawInt pos.line, rawInt pos.col, .ref c']
inductive ZbAt (h : Heap) (K z : Addr) (x : Array UInt8) (t : Tok) (y : Array UInt8) (u : Tok) : Prop
  | mk : ∀ TI TO i1 i2, ZbApart z TI TO i1 i2 → IsZip h z TI TO .none → IsPair h TI (.ref i1) (.ref i2) → (∃ a b, IsPair h TO a b) → KBw.IsBytesIter h i1 x t 0 → KBw.IsBytesIter h i2 y u 0 → K ≤ z → K ≤ TI → K ≤ TO → K ≤ i1 → K ≤ i2 → ZbAt h K z x t y u
section
variable {prog : Program} {w : World} {A : Around} {E : Value → Shared → Prop} {s : Shared} {h₀ : Heap} {L c P : Addr} {m mg mb : Str → Option Value} {news : List (Addr × Obj)} {p : Program} {loose : List Str} {mean : ExcName → Option Value}
theorem zipb_K {x y : Array UInt8} {t u : Tok} {Q : Value → Shared → Prop} (F : Fr h₀ L s.heap m) (N : News h₀ L s.heap news)
    (h : ∀ h' z, Fr h₀ L h' m → News h₀ L h' news → ZbAt h' s.heap.objs.size z x t y u → L < s.heap.objs.size → (∀ p ∈ news, p.1 < s.heap.objs.size) → h₀.objs.size ≤ s.heap.objs.size → Q (.ref z) { s with heap := h' }) :
    wpAny (model prog w) A (call (.type "zip") [.bytes x t, .bytes y u]) Q E s := by
  refine call_zipb fun h' a1 a2 a3 a4 a5 _ hk => h h' _ (F.keeps hk) (fun p hp => ⟨hk _ _ (N p hp).1, (N p hp).2⟩) ⟨_, _, _, _, ?_, a1, a2, ⟨_, _, a3⟩, a4, a5, ?_, ?_, ?_, Nat.le_refl _, ?_⟩ F.ns.lt (fun p hp => Heap.lt_size (N p hp).1) (Nat.le_trans F.above (Nat.le_of_lt F.ns.lt))
  · constructor <;> simp only [ne_eq, Nat.add_left_cancel_iff, Nat.left_eq_add, Nat.add_eq_left] <;> decide
  all_goals exact Nat.le_add_right _ _
theorem gcode_K {env : Env} {pos : Pos} {qualname : Str} {scope : Scope} {ps : Array Value} {Q : Value → Shared → Prop} (F : Fr h₀ L s.heap m) (N : News h₀ L s.heap ((P, tabObj ps) :: news)) (hne : ∀ p ∈ news, p.1 ≠ P) (C : CodeHd h₀ c P) (ht : TabX pos ps) (hc : env.code = .ref c)
    (hQ : ∀ (v : Value) ps' h' tk, TabX pos ps' → Heap.ExtBut P s.heap h' → s.heap.objs.size ≤ h'.objs.size → Fr h₀ L h' m → News h₀ L h' ((P, tabObj ps') :: news) → Q v { s with heap := h', toks := tk }) :
    wpAny (model prog w) A (genexprCode env pos qualname scope) Q E s := by
  have hm := N (P, tabObj ps) (.head _)
  have Ck := C.keeps F.keep
  rcases ht with rfl | ⟨c', rfl⟩
  · refine wpAny_genexprCodeX hc (Ck.code hm.1 True.intro) (Ck.tab hm.1) rfl fun c' h' tk hx hge hlt _ hrec htb _ => hQ _ _ h' tk (.inr ⟨c', rfl⟩) hx (Nat.le_trans hge (Nat.le_of_lt hlt)) ?_ ?_
    · exact ⟨F.ns.extBut hx hm.2.1.symm, fun b o e => hx b o (fun q => by rw [q, hm.2.2] at e; cases e) (F.keep b o e), F.above⟩
    · intro p hp
      rcases List.mem_cons.mp hp with rfl | hp
      · exact ⟨htb.2, hm.2⟩
      · exact ⟨hx _ _ (hne p hp) (N p (.tail _ hp)).1, (N p (.tail _ hp)).2⟩
  · refine wpAny_genexprCode_hit (c' := .ref c') hc (Ck.code hm.1 (by simp [TriplesOk, rawInt])) (by simp [codeAmong, rawInt]) ?_
    exact hQ _ _ s.heap s.toks (.inr ⟨c', rfl⟩) (fun _ _ _ e => e) (Nat.le_refl _) F N
noncomputable def GenX (prog : Program) (w : World) (A : Around) (h₀ : Heap) (L : Addr) (m : Str → Option Value) (led : List (Addr × Obj)) (a : Addr) (ks : List Int) (s₅ : Shared) : Prop :=
  ∀ (Q E : Value → Shared → Prop), (∀ t h' tk gn, Fr h₀ L h' m → News h₀ L h' led → (AllBare s₅.gens → AllBare gn) → Q (.bytes (byteArr ks) t) { s₅ with heap := h', toks := tk, gens := gn }) → wpAny (model prog w) A (call (.type "bytes") [.ref a]) Q E s₅
inductive ZipPost (h₀ : Heap) (L : Addr) (m : Str → Option Value) (led : List (Addr × Obj)) (x y : Array UInt8) (s : Shared) (xv : Value) (s₁ : Shared) : Prop
  | mk : ∀ z t u K h tk, xv = .ref z → s₁ = { s with heap := h, toks := tk } → ZbAt h K z x t y u → Fr h₀ L h m → News h₀ L h led → (∀ p ∈ led, p.1 < K) → L < K → h₀.objs.size ≤ K → ZipPost h₀ L m led x y s xv s₁
theorem xgen_eval {env : Env} {iter : Expr} {xa xb : Str} {pa pb pt p1 p2 p3 : Pos} {kt : Nat} {scope : Scope} {cl : List (Str × Addr)} {pos : Pos} {ps : Array Value} {x y : Array UInt8} {Q : Value → Shared → Prop}
    (_F0 : Fr h₀ L s.heap m) (_N0 : News h₀ L s.heap ((P, tabObj ps) :: news)) {t0 u0 : Tok} (_x0 : m (Str.ofString "a") = some (.bytes x t0)) (_y0 : m (Str.ofString "b") = some (.bytes y u0)) (T : Top p loose mean mg mb h₀) (hge : env.globals = mainGlobals) (hC : CodeHd h₀ c P) (ht : TabX pos ps) (hcode : env.code = .ref c) (hne : ∀ p ∈ news, p.1 ≠ P) (hPn : h₀.get? P = none)
    (hh : A.handled = none) (hco : scope.isCoroutine = false) (hclos : closureFor scope env = pure cl) (hcell : ∀ y ∈ scope.names, y.2 ≠ .cell) (h0 : scope.names.lookup (".0" : Str) = some NameKind.local)
    (hxa : scope.names.lookup xa = some .local) (hxb : scope.names.lookup xb = some .local) (hab : xa ≠ xb) (hda : (xa == ("__debug__" : Str)) = false) (hdb : (xb == ("__debug__" : Str)) = false) (hkind : scope.kind = .function) (hroom : A.depth < recursionLimit) (hz : min x.size y.size ≤ 16777216)
    (hiter : wpAny (model prog w) A (eval iter env) (ZipPost h₀ L m ((P, tabObj ps) :: news) x y s) E s)
    (hs : ∀ x, genFold iter env x = pure x)
    (hQ : ∀ a ps' h tk gs, gs.bare = true → TabX pos ps' → Fr h₀ L h m → News h₀ L h ((P, tabObj ps') :: news) → GenX prog w A h₀ L m ((P, tabObj ps') :: news) a (xorInts x y) { s with heap := h, toks := tk, gens := s.gens.push gs } → Q (.ref a) { s with heap := h, toks := tk, gens := s.gens.push gs }) :
    wpAny (model prog w) A (eval (.GeneratorExp (.BinOp (.Name xa p1) .BitXor (.Name xb p2) p3) [⟨.Tuple [.Name xa pa, .Name xb pb] kt pt, iter, [], 0⟩] scope pos) env) Q E s := by
  refine wpAny_GeneratorExp_walksQT hh hco hclos hcell h0 hxa hxb hab hkind hroom (wpAny_mono hiter (fun xv s₁ h₁ => ?_) fun _ _ e => e) hs
  obtain ⟨z, t, u, K, hp, tk, rfl, rfl, ⟨TI, TO, i1, i2, D, hz1, hTI, hTO, hb1, hb2, k1, k2, k3, k4, k5⟩, F, N, hled, hLK, h0K⟩ := h₁
  refine wpAny_pyIter_zip hz1 ⟨T.nolimit.keeps F.keep, ?_⟩
  refine gcode_K F N hne hC ht hcode fun cv ps' h₃ tk₃ ht' hx₃ hsz F₃ N₃ => ?_
  obtain ⟨bm, ob, b1, b2, b3, b4, b5, b6⟩ := T.bmain
  refine wpAny_builtinsFor (hge ▸ T.g.keeps F₃.keep) b1 b2 (F₃.keep _ _ b3) b4 b5 b6 ?_
  have hPK : P < K := hled (P, tabObj ps) (.head _)
  have hPle : ∀ b, K ≤ b → b ≠ P := fun b hb e => Nat.lt_irrefl _ (Nat.lt_of_lt_of_le hPK (e ▸ hb))
  have up : ∀ b o, K ≤ b → hp.get? b = some o → h₃.get? b = some o := fun b o hb e => hx₃ b o (hPle b hb) e
  have fresh : ∀ b, K ≤ b → h₀.get? b = none := fun b hb => Heap.get?_none_of_le (Nat.le_trans h0K hb)
  have W := fun (A' : Around) (hA : A'.handled = none) => (zb_walks (prog := prog) (w := w) hA z TI TO i1 i2 D x y t u).toU
  have hl₃ : h₃.NoLimit := T.nolimit.keeps F₃.keep
  have hcs : cStatics < K := by
    obtain ⟨_, hns, _⟩ := T.nolimit
    exact Nat.lt_of_lt_of_le hns.lt h0K
  have wrK : ∀ b ∈ [z, TO, i1, i2], K ≤ b := by
    intro b hb
    simp only [List.mem_cons, List.not_mem_nil, or_false] at hb
    rcases hb with rfl | rfl | rfl | rfl
    · exact k1
    · exact k3
    · exact k4
    · exact k5
  have st3 : IsZip h₃ z TI TO .none ∧ IsPair h₃ TI (.ref i1) (.ref i2) ∧ (∃ a b, IsPair h₃ TO a b) ∧ KBw.IsBytesIter h₃ i1 x t 0 ∧ KBw.IsBytesIter h₃ i2 y u 0 := by
    obtain ⟨ta, tb, hTO⟩ := hTO
    exact ⟨up _ _ k1 hz1, up _ _ k2 hTI, ⟨ta, tb, up _ _ k3 hTO⟩, bi_at hb1 (fun o e => up _ o k4 e), bi_at hb2 (fun o e => up _ o k5 e)⟩
  refine ⟨z, _, _, _, _, _, _, (fun _ => true), (fun i v => i < min x.size y.size ∧ ∃ t, v = .int (xorAt x y i) t), rfl, fun A' hA => (W A' hA).bound, ?_, st3, ?_, hl₃, (fun hm => Nat.lt_irrefl _ (Nat.lt_of_lt_of_le hcs (wrK _ hm))), ?_, ?_⟩
  · rintro i vals ⟨_, a, b, u1, u2, _, _, rfl⟩
    exact ⟨_, _, rfl⟩
  · intro b hb
    simp only [List.mem_cons, List.not_mem_nil, or_false] at hb
    obtain ⟨q1, q2, ⟨ta, tb, q3⟩, ⟨o1, q4, _⟩, ⟨o2, q5, _⟩⟩ := st3
    rcases hb with rfl | rfl | rfl | rfl | rfl
    · exact Heap.lt_size q1
    · exact Heap.lt_size q2
    · exact Heap.lt_size q3
    · exact Heap.lt_size q4
    · exact Heap.lt_size q5
  · intro href hhref
    refine ⟨fun A' E' i va vb s₂ m₂ hA' hP hn2 hm1 hm2 _ => ?_, fun A' E' i va vb s₂ m₂ hA' hP _ hn2 hm1 hm2 _ => ?_⟩
    · simp only [List.forIn_nil]
      exact wpAny_pure ⟨rfl, ⟨_, _, rfl, fun _ _ e => e⟩⟩
    · obtain ⟨hlt, xa', xb', u1, u2, hxa', hxb', e⟩ := hP
      obtain ⟨rfl, rfl⟩ : va = .int (xa'.toNat : Int) u1 ∧ vb = .int (xb'.toNat : Int) u2 := by simpa using congrArg Array.toList e
      refine wpAny_BinOp (wpAny_Name (wpAny_loadName_local hkind hxa hn2 hm1 (wpAny_Name (wpAny_loadName_local hkind hxb hn2 hm2 (xor_int ?_)) hdb)) hda)
      refine ⟨⟨hlt, s₂.toks, ?_⟩, ⟨_, _, rfl, fun _ _ e => e⟩⟩
      unfold xorAt
      rw [show x.getD i 0 = xa' by simp [Array.getD_eq_getD_getElem?, hxa'], show y.getD i 0 = xb' by simp [Array.getD_eq_getD_getElem?, hxb']]
  · intro a h₅ tk₅ gs hgb hag hsz₅ hk₅ Wx hat
    have F₅ : Fr h₀ L h₅ m := F₃.keeps hk₅
    have N₅ : News h₀ L h₅ ((P, tabObj ps') :: news) := fun q hq => ⟨hk₅ _ _ (N₃ q hq).1, (N₃ q hq).2⟩
    refine hQ a ps' h₅ tk₅ gs hgb ht' F₅ N₅ fun Q' E' hQ' => ?_
    have hpass : (passing (fun _ => true) (min x.size y.size) 0) = List.range (min x.size y.size) := by simp [passing]
    refine call_bytes_gen (WalksS.in4_3 Wx) (fun i s' st => ⟨_, st.1⟩) hat ?_ (xorAt x y) ?_ (fun i _ => xorAt_in x y i) (by rw [hpass, List.length_range, sizeLine_eq]; exact hz) fun s' t' hm => ?_
    · intro b hb
      show b < h₅.objs.size
      rw [hsz₅]
      rcases List.mem_cons.mp hb with rfl | hb
      · exact Nat.lt_succ_self _
      · rcases List.mem_cons.mp hb with rfl | hb
        · exact Nat.lt_succ_of_lt hag
        · exact Nat.lt_succ_of_lt (Nat.lt_trans (List.mem_range.mp hb) hag)
    · rintro j v ⟨i, hij, _, t9, rfl⟩
      have : i = j := by
        rw [hpass] at hij
        obtain ⟨hj, e⟩ := List.getElem?_eq_some_iff.mp hij
        simpa using e.symm
      exact ⟨t9, by rw [this]⟩
    · have e1 : (List.range (passing (fun _ => true) (min x.size y.size) 0).length).map (xorAt x y) = xorInts x y := by rw [hpass, List.length_range]; exact xorInts_eq x y
      rw [e1]
      have keep : ∀ b o, b ≠ h₃.objs.size → (∀ q ∈ [z, TO, i1, i2], b ≠ q) → h₅.get? b = some o → s'.heap.get? b = some o := fun b o hb hw e => hm.heap b o (fun hmm => by
        rcases List.mem_cons.mp hmm with e9 | hmm
        · exact hb e9
        · exact hw b hmm rfl) e
      have hKsz : K ≤ h₃.objs.size := Nat.le_of_lt (Nat.lt_of_le_of_lt k1 (Heap.lt_size st3.1))
      have low : ∀ b o, b < K → h₅.get? b = some o → s'.heap.get? b = some o := fun b o hb e => keep b o (fun q => Nat.lt_irrefl _ (Nat.lt_of_lt_of_le hb (q ▸ hKsz))) (fun q hq e9 => Nat.lt_irrefl _ (Nat.lt_of_lt_of_le hb (e9 ▸ wrK q hq))) e
      have F' : Fr h₀ L s'.heap m := ⟨F₅.ns.at' (fun o e => low _ o hLK e), fun b o e => low b o (Nat.lt_of_lt_of_le (Heap.lt_size e) h0K) (F₅.keep b o e), F₅.above⟩
      have N' : News h₀ L s'.heap ((P, tabObj ps') :: news) := fun q hq => ⟨low _ _ (by
        rcases List.mem_cons.mp hq with rfl | hq
        · exact hPK
        · exact hled q (.tail _ hq)) (N₅ q hq).1, (N₅ q hq).2⟩
      have es : s' = { s with heap := s'.heap, toks := s'.toks, gens := s'.gens } := by
        obtain ⟨h9, g9, d9, t9, o9⟩ := s'
        have e1 := hm.drawn
        have e2 := hm.os
        simp only at e1 e2
        subst e1 e2
        rfl
      rw [es]
      exact hQ' t' s'.heap s'.toks s'.gens F' N' fun hb => hm.gens.bare hb
end

-- piece xor
theorem news_none {h₀ h : Heap} {L P : Addr} {o : Obj} {news : List (Addr × Obj)} (N : News h₀ L h ((P, o) :: news)) : h₀.get? P = none := (N _ (.head _)).2.2
noncomputable abbrev xpos : Pos := { line := 41, col := 17, endLine := 41, endCol := 50 }
theorem lay61 : True := by
  k_with "m:call type:zip" => ((with_reducible show wpAny _ _ (call (Value.type "zip") [Value.bytes _ _, Value.bytes _ _]) _ _ _); (k_dflt (refine' zipb_K ?zFq7 ?zNq7 ?_; (case zFq7 => k_asm); (case zNq7 => k_asm); k_whole)); intro h'q z'q F'q N'q ZB'q lK'q ledK'q h0K'q)
  k_with "m:eval GeneratorExp" => (k_dflt (refine' xgen_eval ?xFq7 ?xNq7 ?xxq7 ?xyq7 ?xTq7 ?xgq7 ?xCq7 ?xtq7 ?xcq7 ?xnq7 ?xPq7 ?xhq7 ?xoq7 ?xlq7 ?xeq7 ?x0q7 ?xaq7 ?xbq7 ?xabq7 ?xdaq7 ?xdbq7 ?xkq7 ?xrq7 ?xzq7 ?_ ?xsq7 ?_; (case xFq7 => k_asm); (case xNq7 => k_asm); (case xxq7 => exact rfl); (case xyq7 => exact rfl); (case xTq7 => k_asm); (case xgq7 => exact rfl); (case xcq7 => exact rfl); (case xCq7 => kn_code); (case xtq7 => assumption); (case xnq7 => assumption); (case xPq7 => exact news_none (by assumption)); (case xhq7 => exact rfl); (case xoq7 => exact rfl); (case xlq7 => exact rfl); (case xeq7 => decide); (case x0q7 => exact rfl); (case xaq7 => exact rfl); (case xbq7 => exact rfl); (case xabq7 => decide); (case xdaq7 => decide); (case xdbq7 => decide); (case xkq7 => exact rfl); (case xrq7 => k_room); (case xzq7 => omega); (case xsq7 => exact fun _ => rfl); k_whole); (try (intro a'q ps'q h'q tk'q gs'q gb'q ht'q F'q N'q GX'q; (try k_sweep))))
  k_with "m:call type:bytes" => (k_here; (with_reducible show wpAny _ _ (call (Value.type "bytes") [Value.ref _]) _ _ _); (rename GenX _ _ _ _ _ _ _ _ _ _ => gx9q); (k_dflt (refine gx9q _ _ ?_)); intro t'q h'q tk'q gn'q F'q N'q gb'q; (try k_sweep))
  trivial
section
variable {w : World} {p : Program} {loose : List Str} {mean : ExcName → Option Value} {mg mb : Str → Option Value} {dp un : Nat} {gd : Option (List Code)} {A₀ : Around} {env : Env} {outer : List Env} {base h₀ : Heap} {L : Addr} {m : Str → Option Value} {s : Shared} {Q E : Value → Shared → Prop} {news : List (Addr × Obj)}
set_option maxRecDepth 100000 in
set_option maxHeartbeats 8000000 in
theorem xor_c {x y : Array UInt8} {tx ty : Tok} {ps : Array Value}
    (hf : env.frame = some L) (hke : env.scope.kind = .function) (hdp : dp ≤ 900) (hun : un ≤ 9000)
    (B : Below A₀ base outer h₀) (F : Fr h₀ L s.heap m) (X : (hd.heap_1 w.params).In h₀) (N : News h₀ L s.heap ((59, tabObj ps) :: news)) (T : Top p loose mean mg mb h₀)
    (ht : TabX xpos ps) (hxs : x.size ≤ 77) (hys : y.size ≤ 77)
    (C : CodeW base 63 59) (hne : ∀ p ∈ news, p.1 ≠ 59)
    (hret : ∀ (ps' : Array Value) (b : Array UInt8) (t : Tok) (h' : Heap) (tk' : Nat) (gn : Array GenState), TabX xpos ps' → b = xorA x y → b.size ≤ 77 → Fr h₀ L h' m → News h₀ L h' ((59, tabObj ps') :: news) → (AllBare s.gens → AllBare gn) → Q (.bytes b t) { s with heap := h', toks := tk', gens := gn }) :
    wpAny (model PR w) (ar dp un gd env outer) (call (.ref 64) [.bytes x tx, .bytes y ty]) Q E s := by
  have C := C.out
  refine wpAny_call ?_
  k_dflt k_enter
  k_steps
  · exact ⟨_, _, _, _, _, _, rfl, rfl, by assumption, by assumption, by assumption, by assumption, by assumption, by assumption⟩
  · refine hret _ _ _ _ _ _ (by assumption) rfl (by show (xorA x y).size ≤ 77; rw [xorA_size]; exact Nat.le_trans (Nat.min_le_left ..) hxs) (by k_asm) (by k_asm) fun hb => ?_
    refine (?gf : AllBare _ → AllBare _) ?gx
    case gf => assumption
    case gx => exact AllBare.push hb (by assumption)
end

-- piece forg
inductive ForGEnd (h₀ : Heap) (L I : Addr) (it : Obj) (J : (Str → Option Value) → List (Addr × Obj) → Array GenState → Prop) (s₁ s₂ : Shared) : Prop
  | mk : ∀ h' tk gn m' nw, (s₂ = { s₁ with heap := h', toks := tk, gens := gn }) → (Fr h₀ L h' m') → (News h₀ L h' ((I, it) :: nw)) → ((∀ p ∈ nw, p.1 ≠ I)) → (J m' nw gn) → ForGEnd h₀ L I it J s₁ s₂
noncomputable def ForGPost (h₀ : Heap) (L I : Addr) (it : Obj) (J : (Str → Option Value) → List (Addr × Obj) → Array GenState → Prop) (s₁ : Shared) (Q : Flow → Shared → Prop) (f : Flow) (s₂ : Shared) : Prop :=
  match f with
  | .ret v => Q (.ret v) s₂
  | .brk => Q .next s₂
  | _ => ForGEnd h₀ L I it J s₁ s₂
theorem ForGEnd.intro {h₀ : Heap} {L I : Addr} {it : Obj} {J : (Str → Option Value) → List (Addr × Obj) → Array GenState → Prop} {s₁ : Shared} {h' : Heap} {tk : Nat} {gn : Array GenState} {m' : Str → Option Value} {nw all : List (Addr × Obj)}
    (F : Fr h₀ L h' m') (N : News h₀ L h' all) (sub : ∀ p ∈ (I, it) :: nw, p ∈ all) (off : ∀ p ∈ nw, p.1 ≠ I) (j : J m' nw gn) : ForGEnd h₀ L I it J s₁ { s₁ with heap := h', toks := tk, gens := gn } :=
  ⟨h', tk, gn, m', nw, rfl, F, fun p hp => N p (sub p hp), off, j⟩
section
variable {prog : Program} {w : World} {A : Around} {E : Value → Shared → Prop} {s : Shared} {env : Env} {h₀ : Heap} {x : Str} {body : List Stmt} {Q : Flow → Shared → Prop}
inductive ForG (prog : Program) (w : World) (A : Around) (h₀ : Heap) (env : Env) (x : Str) (body : List Stmt) (Q : Flow → Shared → Prop) (E : Value → Shared → Prop) (xv : Value) (s₁ : Shared) : Prop
  | mk : ∀ (r : Addr) (a b : Int) (t u v : Tok) (n : Nat) (m₀ : Str → Option Value) (news : List (Addr × Obj)) (J : Nat → (Str → Option Value) → List (Addr × Obj) → Array GenState → Prop), (xv = .ref r) → (IsRange s₁.heap r a b 1 t u v) → (Builtin.Range.small a b 1 = true) → (Builtin.Range.rangeSize a b 1 = (n : Int)) → (Fr h₀ env.locals s₁.heap m₀) → (News h₀ env.locals s₁.heap news) → (J 0 m₀ news s₁.gens) → ((∀ (I : Addr) (i : Nat) (t : Tok) m₁ nw h tk gn, i < n → (∀ p ∈ news, p.1 < I) → J i m₁ nw gn → (∀ p ∈ nw, p.1 ≠ I) → Fr h₀ env.locals h (fun y => if y = x then some (.int (a + (i : Int)) t) else m₁ y) → News h₀ env.locals h ((I, itR (a + ((i + 1 : Nat) : Int)) ((n : Int) - ((i + 1 : Nat) : Int))) :: nw) → wpAny (model prog w) A (execs body env) (ForGPost h₀ env.locals I (itR (a + ((i + 1 : Nat) : Int)) ((n : Int) - ((i + 1 : Nat) : Int))) (J (i + 1)) { s₁ with heap := h, toks := tk, gens := gn } Q) E { s₁ with heap := h, toks := tk, gens := gn })) → ((∀ h tk gn m nw, J n m nw gn → Fr h₀ env.locals h m → News h₀ env.locals h nw → Q .next { s₁ with heap := h, toks := tk, gens := gn })) → ForG prog w A h₀ env x body Q E xv s₁
inductive ForGSt (s₁ : Shared) (It : Addr) (a : Int) (n : Nat) (h₀ : Heap) (L : Addr) (J : Nat → (Str → Option Value) → List (Addr × Obj) → Array GenState → Prop) (k : Nat) (s' : Shared) : Prop
  | mk : ∀ h' tk gn m' nw i, s' = { s₁ with heap := h', toks := tk, gens := gn } → IsRangeIter h' It (a + (i : Nat) * 1) ((n : Int) - (i : Nat)) 1 → Fr h₀ L h' m' → News h₀ L h' nw → (∀ p ∈ nw, p.1 ≠ It) → J i m' nw gn → i ≤ n → k = n + 1 - i → ForGSt s₁ It a n h₀ L J k s'
theorem For_G {px pos : Pos} {iter : Expr} (h₀ : Heap) (hh : A.handled = none) (hx : env.kindOf x = some .local)
    (hp : (env.scope.kind == .class || (env.scope.kind == .module && env.locals != env.globals)) = false)
    (h : wpAny (model prog w) A (eval iter env) (fun xv s₁ => ForG prog w A h₀ env x body Q E xv s₁) E s)
    (hs : ∀ x, foldedSetIterable iter env x = pure x := by intro _; rfl)
    (hE : PassesOwn (model prog w) A env E := by passes_own) :
    wpAny (model prog w) A (exec (.For (.Name x px) iter body [] pos) env) Q E s := by
  refine wpAny_For (wpAny_mono h (fun xv s₁ h₁ => ?_) fun _ _ e => e) hs
  obtain ⟨r, a, b, t, u, v, n, m₀, news, J, rfl, hr, hsmall, hn, F, N, h0, step, hQ⟩ := h₁
  refine wpAny_pyIter_range hr hsmall ?_
  have hnew : h₀.get? s₁.heap.objs.size = none := next_is_new F
  have hLne : env.locals ≠ s₁.heap.objs.size := Nat.ne_of_lt F.ns.lt
  generalize hI : s₁.heap.objs.size = It at hnew hLne
  have W : Walks prog w A It [It] [It] n (fun i v => ∃ t, v = .int (a + i * 1) t) (fun i h => IsRangeIter h It (a + (i : Nat) * 1) ((n : Int) - (i : Nat)) 1) := Walks.range hh It a 1 n
  have hnI : ∀ p ∈ news, p.1 < It := fun p hp => hI ▸ Heap.lt_size (N p hp).1
  refine codeAny_forLoop (R := fun r s' => match r with | .ok f => Q f s' | .error e => cameBackBy (model prog w) A env E e s')
    (fun k s' => ForGSt s₁ It a n h₀ env.locals J k s') ?_ (n + 1)
    ⟨_, s₁.toks, s₁.gens, m₀, news, 0, rfl, by show IsRangeIter _ _ _ _ _; rw [hn]; simpa using hI ▸ Heap.get?_push_size _ rfl, F.push _, (fun p hp => ⟨Heap.get?_push_of_some _ (N p hp).1, (N p hp).2⟩), (fun p hp => Nat.ne_of_lt (hnI p hp)), h0, Nat.zero_le _, rfl⟩
  rintro k s' ⟨h', tk, gn, m', nw, i, rfl, hst, F', N', hoff, hJ, hi, rfl⟩
  have next : ∀ h₁ : Heap, (∀ b o, b ∉ [It] → h'.get? b = some o → h₁.get? b = some o) → Fr h₀ env.locals h₁ m' ∧ News h₀ env.locals h₁ nw := fun h₁ hk₁ =>
    ⟨⟨F'.ns.at' fun o e => hk₁ _ o (fun hm => hLne (List.mem_singleton.mp hm)) e, fun b o e => hk₁ b o (fun hm => by rw [List.mem_singleton.mp hm, hnew] at e; cases e) (F'.keep b o e), F'.above⟩,
      fun p hp => ⟨hk₁ _ _ (fun hm => hoff p hp (List.mem_singleton.mp hm)) (N' p hp).1, (N' p hp).2⟩⟩
  by_cases hlt : i < n
  · refine W.item i _ _ _ hlt hst fun v h₁ tk₁ hP hst₁ hk₁ => ?_
    obtain ⟨F₁, N₁⟩ := next h₁ hk₁
    obtain ⟨t, rfl⟩ := hP
    refine wpAny_assign_Name (wpAny_storeName_local hx F₁.ns (fun h₂ hn₂ hs₂ => ?_) hp)
    have F₂ := F₁.set hn₂ hs₂
    have N₂ := N₁.set hs₂
    have e1 : a + (i : Int) * 1 = a + (i : Int) := by rw [Int.mul_one]
    rw [e1] at F₂
    have hst₂ : h₂.get? It = some (itR (a + ((i + 1 : Nat) : Int)) ((n : Int) - ((i + 1 : Nat) : Int))) := by
      have q : IsRangeIter h₁ It (a + ((i + 1 : Nat) : Int) * 1) ((n : Int) - ((i + 1 : Nat) : Int)) 1 := hst₁
      rw [Int.mul_one] at q
      exact (hs₂.2 It (Ne.symm hLne)).trans q
    have N₃ : News h₀ env.locals h₂ ((It, itR (a + ((i + 1 : Nat) : Int)) ((n : Int) - ((i + 1 : Nat) : Int))) :: nw) := fun p hp => by
      rcases List.mem_cons.mp hp with rfl | hp
      · exact ⟨hst₂, Ne.symm hLne, hnew⟩
      · exact N₂ p hp
    refine wpAny_passesOwn hE (wpAny_mono (step It i t m' nw h₂ _ gn hlt hnI hJ hoff F₂ N₃) (fun f s₃ h₃ => ?_) fun _ _ e => e)
    have fin : ForGEnd h₀ env.locals It (itR (a + ((i + 1 : Nat) : Int)) ((n : Int) - ((i + 1 : Nat) : Int))) (J (i + 1)) { s₁ with heap := h₂, toks := tk₁ + 1, gens := gn } s₃ →
        ∃ m, m < n + 1 - i ∧ ForGSt s₁ It a n h₀ env.locals J m s₃ := by
      rintro ⟨h₄, tk₄, gn₄, m₄, nw₄, rfl, F₄, N₄, off₄, j₄⟩
      refine ⟨n + 1 - (i + 1), by omega, h₄, tk₄, gn₄, m₄, nw₄, i + 1, rfl, ?_, F₄, fun p hp => N₄ p (.tail _ hp), off₄, j₄, hlt, rfl⟩
      have q := (N₄ _ (.head _)).1
      show h₄.get? It = _
      rw [Int.mul_one]
      exact q
    cases f with
    | ret v => exact h₃
    | brk => exact h₃
    | cont => exact fin h₃
    | next => exact fin h₃
  · have hin : i = n := by omega
    subst hin
    refine W.done _ _ _ hst fun h₁ tk₁ hk₁ => wpAny_execs_nil ?_
    obtain ⟨F₁, N₁⟩ := next h₁ hk₁
    exact hQ h₁ tk₁ gn m' nw hJ F₁ N₁
theorem For_GF {m : Str → Option Value} {px pos : Pos} {iter : Expr} (_F : Fr h₀ env.locals s.heap m) (hh : A.handled = none) (hx : env.kindOf x = some .local)
    (hp : (env.scope.kind == .class || (env.scope.kind == .module && env.locals != env.globals)) = false)
    (h : wpAny (model prog w) A (eval iter env) (fun xv s₁ => ForG prog w A h₀ env x body Q E xv s₁) E s)
    (hs : ∀ x, foldedSetIterable iter env x = pure x := by intro _; rfl)
    (hE : PassesOwn (model prog w) A env E := by passes_own) :
    wpAny (model prog w) A (exec (.For (.Name x px) iter body [] pos) env) Q E s := For_G h₀ hh hx hp h hs hE
theorem ForG.of (K : Nat → List (Addr × Obj) → Array GenState → Prop) {r : Addr} {a b : Int} {t u v : Tok} {n : Nat} {m₀ : Str → Option Value} {news : List (Addr × Obj)}
    (hr : IsRange s.heap r a b 1 t u v) (hs : Builtin.Range.small a b 1 = true) (hn : Builtin.Range.rangeSize a b 1 = (n : Int)) (F : Fr h₀ env.locals s.heap m₀) (N : News h₀ env.locals s.heap news) (h0 : K 0 news s.gens)
    (turn : ∀ (I : Addr) (i : Nat) (t : Tok) nw h tk gn, i < n → (∀ p ∈ news, p.1 < I) → K i nw gn → (∀ p ∈ nw, p.1 ≠ I) → Fr h₀ env.locals h (fun y => if y = x then some (.int (a + (i : Int)) t) else m₀ y) →
      News h₀ env.locals h ((I, itR (a + ((i + 1 : Nat) : Int)) ((n : Int) - ((i + 1 : Nat) : Int))) :: nw) →
      wpAny (model prog w) A (execs body env) (ForGPost h₀ env.locals I (itR (a + ((i + 1 : Nat) : Int)) ((n : Int) - ((i + 1 : Nat) : Int))) (fun m' nw gn => (∀ z, z ≠ x → m' z = m₀ z) ∧ K (i + 1) nw gn) { s with heap := h, toks := tk, gens := gn } Q) E { s with heap := h, toks := tk, gens := gn })
    (done : ∀ (u : Str → Option Value) h tk gn nw, K n nw gn → Fr h₀ env.locals h (fun y => if y = x then u y else m₀ y) → News h₀ env.locals h nw → Q .next { s with heap := h, toks := tk, gens := gn }) :
    ForG prog w A h₀ env x body Q E (.ref r) s := by
  refine ⟨r, a, b, t, u, v, n, m₀, news, fun i m nw gn => (∀ z, z ≠ x → m z = m₀ z) ∧ K i nw gn, rfl, hr, hs, hn, F, N, ⟨fun _ _ => rfl, h0⟩, ?_, ?_⟩
  · rintro I i t m₁ nw h tk gn hi hI ⟨hm, hK⟩ hoff F₁ N₁
    have em : (fun y => if y = x then some (Value.int (a + (i : Int)) t) else m₁ y) = fun y => if y = x then some (Value.int (a + (i : Int)) t) else m₀ y := by
      funext y
      by_cases hy : y = x
      · rw [if_pos hy, if_pos hy]
      · rw [if_neg hy, if_neg hy]; exact hm y hy
    rw [em] at F₁
    exact turn I i t nw h tk gn hi hI hK hoff F₁ N₁
  · rintro h tk gn m nw ⟨hm, hK⟩ F₁ N₁
    refine done m h tk gn nw hK ?_ N₁
    have em : (fun z => if z = x then m z else m₀ z) = m := by
      funext z
      by_cases hz : z = x
      · rw [if_pos hz]
      · rw [if_neg hz]; exact (hm z hz).symm
    rw [em]; exact F₁
theorem ForG.ofS (stored : List Str) (K : Nat → List (Addr × Obj) → Array GenState → Prop) {r : Addr} {a b : Int} {t u v : Tok} {n : Nat} {m₀ : Str → Option Value} {news : List (Addr × Obj)}
    (hr : IsRange s.heap r a b 1 t u v) (hs : Builtin.Range.small a b 1 = true) (hn : Builtin.Range.rangeSize a b 1 = (n : Int)) (F : Fr h₀ env.locals s.heap m₀) (N : News h₀ env.locals s.heap news) (h0 : K 0 news s.gens)
    (turn : ∀ (I : Addr) (i : Nat) (t : Tok) (u : Str → Option Value) nw h tk gn, i < n → (∀ p ∈ news, p.1 < I) → K i nw gn → (∀ p ∈ nw, p.1 ≠ I) → Fr h₀ env.locals h (fun y => if y = x then some (.int (a + (i : Int)) t) else if stored.contains y then u y else m₀ y) →
      News h₀ env.locals h ((I, itR (a + ((i + 1 : Nat) : Int)) ((n : Int) - ((i + 1 : Nat) : Int))) :: nw) →
      wpAny (model prog w) A (execs body env) (ForGPost h₀ env.locals I (itR (a + ((i + 1 : Nat) : Int)) ((n : Int) - ((i + 1 : Nat) : Int))) (fun m' nw gn => (∀ z, z ≠ x → stored.contains z = false → m' z = m₀ z) ∧ K (i + 1) nw gn) { s with heap := h, toks := tk, gens := gn } Q) E { s with heap := h, toks := tk, gens := gn })
    (done : ∀ (u : Str → Option Value) h tk gn nw, K n nw gn → Fr h₀ env.locals h (fun y => if y = x then u y else if stored.contains y then u y else m₀ y) → News h₀ env.locals h nw → Q .next { s with heap := h, toks := tk, gens := gn }) :
    ForG prog w A h₀ env x body Q E (.ref r) s := by
  refine ⟨r, a, b, t, u, v, n, m₀, news, fun i m nw gn => (∀ z, z ≠ x → stored.contains z = false → m z = m₀ z) ∧ K i nw gn, rfl, hr, hs, hn, F, N, ⟨fun _ _ _ => rfl, h0⟩, ?_, ?_⟩
  · rintro I i t m₁ nw h tk gn hi hI ⟨hm, hK⟩ hoff F₁ N₁
    have em : (fun y => if y = x then some (Value.int (a + (i : Int)) t) else m₁ y) = fun y => if y = x then some (Value.int (a + (i : Int)) t) else if stored.contains y then m₁ y else m₀ y := by
      funext y
      by_cases hy : y = x
      · rw [if_pos hy, if_pos hy]
      · rw [if_neg hy, if_neg hy]
        cases hc : stored.contains y with
        | true => rfl
        | false => exact hm y hy hc
    rw [em] at F₁
    exact turn I i t m₁ nw h tk gn hi hI hK hoff F₁ N₁
  · rintro h tk gn m nw ⟨hm, hK⟩ F₁ N₁
    refine done m h tk gn nw hK ?_ N₁
    have em : (fun z => if z = x then m z else if stored.contains z then m z else m₀ z) = m := by
      funext z
      by_cases hz : z = x
      · rw [if_pos hz]
      · rw [if_neg hz]
        cases hc : stored.contains z with
        | true => rfl
        | false => exact (hm z hz hc).symm
    rw [em]; exact F₁
end

-- piece bjoin
theorem lk_buf : typeLookup (.type "bytes") "__buffer__" = pure (some (.builtin "bytes.__buffer__")) := by rw [typeLookup_type, builtinLookup_eq_fast]; kernel_rfl
theorem lk_rel : typeLookup (.type "bytes") "__release_buffer__" = pure none := by rw [typeLookup_type, builtinLookup_eq_fast]; kernel_rfl
noncomputable def BAre (vs : List Value) (cs : List (Array UInt8)) : Prop := vs.length = cs.length ∧ ∀ (i : Nat) (c : Array UInt8), cs[i]? = some c → ∃ t, vs[i]? = some (.bytes c t)
section
variable {prog : Program} {w : World} {A : Around} {M : Model} {E : Value → Shared → Prop} {s : Shared}
theorem bj_own {b : Array UInt8} {t : Tok} {Q : Bool → Shared → Prop} (h : Q true s) : wpAny M A (Builtin.Bytes.slotIsOwn (.bytes b t) "__buffer__") Q E s := by
  unfold Builtin.Bytes.slotIsOwn
  refine wpAny_bind (wpAny_specialOf (typeIs_bytes s b t) lk_buf ?_)
  (try dsimp only)
  refine bm_if_false (by decide +kernel) ?_
  rw [show "bytes.__buffer__".dropRight ("__buffer__".length + 1) = "bytes" by decide +kernel]
  exact wpAny_isInstance (T := "bytes") (b := true) (typeIs_bytes s b t) F.bm_sub h
theorem bj_rel {b : Array UInt8} {t : Tok} {Q : Bool → Shared → Prop} (h : Q false s) : wpAny M A (Builtin.Bytes.ownRelease (.bytes b t)) Q E s := by
  unfold Builtin.Bytes.ownRelease Builtin.Bytes.slotIsOwn
  refine wpAny_bind (wpAny_bind (wpAny_specialOf (typeIs_bytes s b t) lk_rel ?_))
  exact wpAny_pure (wpAny_pure h)
theorem bj_take {id : String} {b : Array UInt8} {t : Tok} {Q : Option (Array UInt8 × Option Value) → Shared → Prop} (h : Q (some (b, none)) s) : wpAny M A (Builtin.Bytes.takeBufferQuiet? id (.bytes b t) 0) Q E s := by
  unfold Builtin.Bytes.takeBufferQuiet?
  refine wpAny_bind (wpAny_attempt ?_)
  unfold Builtin.Bytes.takeBuffer?
  refine wpAny_bind (wpAny_specialOf (typeIs_bytes s b t) lk_buf ?_)
  (try dsimp only)
  refine wpAny_bind (bj_own ?_)
  refine bm_if_false rfl ?_
  refine wpAny_bind (wpAny_specialOf (typeIs_bytes s b t) lk_buf ?_)
  refine wpAny_bind ?_
  unfold Builtin.Bytes.buffer?
  refine wpAny_bind (wpAny_specialOf (typeIs_bytes s b t) lk_buf ?_)
  (try dsimp only)
  refine wpAny_bind (bj_own ?_)
  refine bm_if_false rfl ?_
  refine wpAny_bind (wpAny_specialOf (typeIs_bytes s b t) lk_buf ?_)
  (try dsimp only)
  refine wpAny_bind (bj_rel ?_)
  refine bm_if_false rfl ?_
  refine wpAny_bind (wpAny_of_eq (a := b) rfl ?_)
  exact wpAny_pure (wpAny_pure (wpAny_pure h))
theorem bj_letGo {keep : List Value} {Q : Unit → Shared → Prop} (h : Q () s) : ∀ (taken : List (Value × Option Value)), (∀ p ∈ taken, p.2 = none) → wpAny M A (Builtin.Bytes.joinLetGo taken keep) Q E s
  | [], _ => by unfold Builtin.Bytes.joinLetGo; exact wpAny_pure h
  | (x, none) :: r, hn => by
    unfold Builtin.Bytes.joinLetGo
    refine wpAny_bind (wpAny_letGo ?_)
    exact bj_letGo h r fun p hp => hn p (.tail _ hp)
  | (x, some v) :: r, hn => by cases hn _ (.head _)
theorem bj_loop {vs : List Value} {cs : List (Array UInt8)} {f : Nat → Array (Array UInt8) × List (Value × Option Value) → Sem (ForInStep (Array (Array UInt8) × List (Value × Option Value)))} {Q : Array (Array UInt8) × List (Value × Option Value) → Shared → Prop}
    (hv : BAre vs cs)
    (hf : ∀ i parts taken (c : Array UInt8) t (R : ForInStep (Array (Array UInt8) × List (Value × Option Value)) → Shared → Prop), (∀ p ∈ taken, p.2 = none ∧ p.1.onHeap = false) → vs[i]? = some (.bytes c t) → R (.yield (parts.push c, taken ++ [(.bytes c t, none)])) s → wpAny M A (f i (parts, taken)) R E s)
    (h : ∀ taken, (∀ p ∈ taken, p.2 = none ∧ p.1.onHeap = false) → Q (cs.toArray, taken) s) : wpAny M A (forIn [:vs.length] (#[], []) f) Q E s := by
  rw [Std.Legacy.Range.forIn_eq_forIn_range']
  simp only [Std.Legacy.Range.size, Nat.sub_zero, Nat.add_sub_cancel, Nat.div_one]
  refine wpAny_forIn_list f (fun rest b s' => s' = s ∧ ∃ i, i ≤ vs.length ∧ rest = List.range' i (vs.length - i) ∧ b.1 = (cs.take i).toArray ∧ ∀ p ∈ b.2, p.2 = none ∧ p.1.onHeap = false) Q ?_ ?_ _ _ ⟨rfl, 0, Nat.zero_le _, by simp, by simp, fun _ h => nomatch h⟩
  · rintro x rest ⟨parts, taken⟩ s' ⟨rfl, i, hi, hr, hp, ht⟩
    have hlt : i < vs.length := by
      rcases Nat.lt_or_ge i vs.length with h | h
      · exact h
      · rw [Nat.sub_eq_zero_of_le h] at hr; cases hr
    have hc : i < cs.length := hv.1 ▸ hlt
    obtain ⟨t, hvi⟩ := hv.2 i cs[i] (List.getElem?_eq_getElem hc)
    obtain ⟨k, hk⟩ : ∃ k, vs.length - i = k + 1 := ⟨vs.length - i - 1, by omega⟩
    rw [hk, List.range'_succ] at hr
    obtain ⟨rfl, rfl⟩ := List.cons.inj hr
    refine hf x parts taken cs[x] t _ ht hvi ⟨rfl, x + 1, hlt, ?_, ?_, ?_⟩
    · rw [show vs.length - (x + 1) = k by omega]
    · show parts.push cs[x] = (cs.take (x + 1)).toArray
      have hp' : parts = (cs.take x).toArray := hp
      rw [hp', List.take_add_one, List.getElem?_eq_getElem hc]
      simp
    · intro p hp2
      rcases List.mem_append.mp hp2 with hp2 | hp2
      · exact ht p hp2
      · rw [List.mem_singleton.mp hp2]; exact ⟨rfl, rfl⟩
  · rintro ⟨parts, taken⟩ s' ⟨rfl, i, hi, hr, hp, ht⟩
    have hin : i = vs.length := by
      have := congrArg List.length hr
      simp at this
      omega
    subst hin
    have hp' : parts = cs.toArray := by
      have hp' : parts = (cs.take vs.length).toArray := hp
      rw [hp', hv.1, List.take_length]
    rw [hp']
    exact h taken ht
theorem joined_nil (cs : List (Array UInt8)) : Builtin.Bytes.joined #[] cs = cs.foldl (· ++ ·) #[] := by
  unfold Builtin.Bytes.joined
  suffices h : ∀ (l : List (Array UInt8)) (k : Nat) (acc : Array UInt8), (l.zipIdx k).foldl (fun out (x : Array UInt8 × Nat) => (if x.2 > 0 then out ++ #[] else out) ++ x.1) acc = l.foldl (· ++ ·) acc from h cs 0 #[]
  intro l
  induction l with
  | nil => intro k acc; rfl
  | cons c r ih =>
    intro k acc
    rw [List.zipIdx_cons, List.foldl_cons, List.foldl_cons, ih]
    congr 1
    split <;> simp
theorem jl_size (cs : List (Array UInt8)) : (cs.foldl (· ++ ·) #[]).size = (cs.map (·.size)).sum := by
  suffices h : ∀ (l : List (Array UInt8)) (acc : Array UInt8), (l.foldl (· ++ ·) acc).size = acc.size + (l.map (·.size)).sum by simpa using h cs #[]
  intro l
  induction l with
  | nil => intro acc; simp
  | cons c r ih => intro acc; rw [List.foldl_cons, ih, Array.size_append, List.map_cons, List.sum_cons]; omega
theorem jl_fold (cs : List (Array UInt8)) (k : Nat) : cs.toArray.foldl (fun a x => a + x.size) k = k + (cs.map (·.size)).sum := by
  rw [List.foldl_toArray]
  induction cs generalizing k with
  | nil => simp
  | cons c r ih => rw [List.foldl_cons, ih, List.map_cons, List.sum_cons]; omega
theorem bj_tree {l : Addr} {vs : List Value} {cs : List (Array UInt8)} {t : Tok} {Q : Value → Shared → Prop} (hl : s.heap.IsList l vs.toArray) (hv : BAre vs cs) (hn0 : vs.length ≠ 0) (hsz : (cs.map (·.size)).sum ≤ 16777216)
    (h : ∀ t' k, Q (.bytes (cs.foldl (· ++ ·) #[]) t') { s with toks := k }) :
    wpAny M A (Builtin.«bytes.join» ⟨[.bytes #[] t, .ref l], []⟩) (fun fin s' => ∃ v, fin = .done (.ret v) ∧ Q v s') E s := by
  have hT := hl.typeIs
  obtain ⟨ol, hol, hoc, nl, hod⟩ := id hl
  unfold Builtin.«bytes.join» Builtin.Bytes.joinM
  refine wpAny_bind (wpAny_of_eq (a := (.bytes #[] t, .ref l)) rfl ?_)
  (try dsimp only)
  refine wpAny_bind ?_
  show wpAny M A (Builtin.Bytes.joinItems (.ref l)) _ _ _
  unfold Builtin.Bytes.joinItems
  refine wpAny_bind (wpAny_typeOf hT ?_)
  refine bm_if_true (by decide) ?_
  refine wpAny_pure ?_
  refine wpAny_bind (wpAny_seqItems hol hod ?_)
  (try dsimp only)
  refine bm_if_true rfl ?_
  rcases vs with _ | ⟨x, _ | ⟨y, r⟩⟩
  · exact absurd rfl hn0
  · have hc : cs.length = 1 := hv.1.symm
    obtain ⟨c, rfl⟩ := List.length_eq_one_iff.mp hc
    obtain ⟨t', hx⟩ := hv.2 0 c rfl
    obtain rfl : x = .bytes c t' := by simpa using hx
    show wpAny M A (typeOf (.bytes c t') >>= _) _ _ _
    refine wpAny_bind (wpAny_typeOf (typeIs_bytes s c t') ?_)
    refine bm_if_true (by decide) ?_
    refine wpAny_bind (wpAny_rule ?_)
    refine wpAny_pure ⟨_, rfl, ?_⟩
    have h' := h t' s.toks
    simp only [List.foldl_cons, List.foldl_nil, Array.empty_append] at h'
    exact h'
  · show wpAny M A (forIn [:(x :: y :: r).length] (#[], []) _ >>= _) _ _ _
    refine wpAny_bind (bj_loop hv (fun i parts taken c t R ht hvi hR => ?_) fun taken ht => ?_)
    · refine wpAny_bind (wpAny_seqItems hol hod ?_)
      have hx : (x :: y :: r).toArray.getD i .none = .bytes c t := by
        rw [Array.getD_eq_getD_getElem?, List.getElem?_toArray, hvi]; rfl
      (try dsimp only)
      rw [hx]
      have ha : (taken.any fun x => x.1.onHeap) = false := by
        rw [List.any_eq_false]
        intro p hp
        rw [(ht p hp).2]; decide
      refine bm_if_false (by rw [ha]; rfl) ?_
      refine wpAny_bind (wpAny_holding (bj_take ?_))
      (try dsimp only)
      refine wpAny_bind (wpAny_seqItems hol hod ?_)
      (try dsimp only)
      refine bm_if_false (by simp) ?_
      exact wpAny_pure hR
    · refine wpAny_bind (wpAny_of_eq (a := (#[] : Array UInt8)) rfl ?_)
      refine bm_if_false ?_ ?_
      · show Builtin.Bytes.tooLong (cs.toArray.foldl (fun a x => a + x.size) _) = false
        rw [jl_fold]
        unfold Builtin.Bytes.tooLong
        rw [decide_eq_false_iff_not, sizeLine_eq]
        simp only [Array.size_empty, Nat.zero_mul, Nat.zero_add]
        omega
      · refine wpAny_bind (wpAny_mkBytes ?_ ?_)
        · refine wpAny_bind (wpAny_holding (wpAny_point ?_))
          refine wpAny_bind (bj_letGo ?_ taken fun p hp => (ht p hp).1)
          refine wpAny_pure ⟨_, rfl, ?_⟩
          show Q (.bytes (Builtin.Bytes.joined #[] cs.toArray.toList) _) _
          rw [joined_nil]
          exact h _ _
        · show (Builtin.Bytes.joined #[] cs.toArray.toList).size ≤ sizeLine
          rw [joined_nil, jl_size, sizeLine_eq]
          exact hsz
theorem bj_slot : Slot "bytes" "join" "bytes.join" :=
  .of (owner := "bytes") (n := "join") (by rw [typeLookup_type, builtinLookup_eq_fast]; kernel_rfl) (by decide +kernel) (by decide +kernel) (by decide +kernel)
    (by first | exact .inl (by decide +kernel) | exact .inr (by decide +kernel)) (by rw [isSubtype_type]; kernel_rfl)
theorem bj_type : typeOf (.builtin "bytes.join") = pure (.type "method_descriptor") := by show builtinType _ = _; rw [builtinType_eq_fast]; kernel_rfl
theorem bj_entry : entryFor table "bytes.join" = some Builtin.«bytes.join» := by first | exact entryFor_of_fast (by kernel_rfl) | exact entryFor_of_tree (by kernel_rfl)
theorem bj_args (a b : Value) : argsOk "bytes.join" ⟨[a, b], []⟩ := by unfold argsOk; kernel_rfl
theorem bj_method {b : Array UInt8} {t : Tok} {pl : Sem Bool} {Q : Value × List Value → Shared → Prop} (h : Q (.builtin "bytes.join", [.bytes b t]) s) : wpAny M A (getMethod (.bytes b t) "join" pl) Q E s := by
  with_reducible exact KBd.method_of (.bytes b t) (typeIs_bytes _ _ _) bj_slot bj_type KBd.noRef h
theorem call_bjoin {l : Addr} {vs : List Value} {cs : List (Array UInt8)} {t : Tok} {Q : Value → Shared → Prop} (hl : s.heap.IsList l vs.toArray) (hv : BAre vs cs) (hn0 : vs.length ≠ 0) (hsz : (cs.map (·.size)).sum ≤ 16777216)
    (h : ∀ t' k, Q (.bytes (cs.foldl (· ++ ·) #[]) t') { s with toks := k }) : wpAny (model prog w) A (call (.builtin "bytes.join") [.bytes #[] t, .ref l]) Q E s :=
  wpAny_call_entry bj_slot (typeIs_bytes s _ t) bj_entry (bj_tree hl hv hn0 hsz h) (bj_args _ _)
end

-- piece exp
theorem xorA_le {x y : Array UInt8} {n : Nat} (h : x.size ≤ n) : (xorA x y).size ≤ n := by
  rw [xorA_size]; exact Nat.le_trans (Nat.min_le_left ..) h
theorem sz_add {b c : Array UInt8} {m n : Nat} (h1 : b.size ≤ m) (h2 : c.size ≤ n) : (b ++ c).size ≤ m + n := by
  rw [Array.size_append]; exact Nat.add_le_add h1 h2
theorem sz_sum {b c : Array UInt8} {m n : Nat} (h1 : b.size ≤ m) (h2 : c.size ≤ n) (h : m + n ≤ 16777216) : b.size + c.size ≤ 16777216 := Nat.le_trans (Nat.add_le_add h1 h2) h
theorem sz_xi {x y : Array UInt8} {n : Nat} (h : x.size ≤ n) : (byteArr (xorInts x y)).size ≤ n := xorA_le h
theorem sz_b1 (x : Int) : (byteArr [x]).size ≤ 1 := Nat.le_refl 1
theorem sz_b2 (x y : Int) : (byteArr [x, y]).size ≤ 2 := Nat.le_refl 2
theorem sz_b3 (x y z : Int) : (byteArr [x, y, z]).size ≤ 3 := Nat.le_refl 3
theorem sz_lit1 (c : UInt8) : (#[c] : Array UInt8).size ≤ 1 := Nat.le_refl 1
noncomputable def zerosA (block : Int) : Array UInt8 := ((List.replicate block.toNat [0]).flatten).toArray
theorem sz_zero (block : Int) (h : block < 9) : (((List.replicate block.toNat [(0 : UInt8)]).flatten).toArray).size ≤ 9 := by
  simp; omega
noncomputable def chainA (digits : Int) (b0 dp : Array UInt8) : Nat → Array UInt8
  | 0 => hashA digits (b0 ++ #[1] ++ dp)
  | k + 1 => hashA digits (xorA b0 (chainA digits b0 dp k) ++ byteArr [2 + (k : Int)] ++ dp)
theorem chainA_le (digits : Int) (b0 dp : Array UInt8) : ∀ k, (chainA digits b0 dp k).size ≤ 77
  | 0 => hashA_le _ _
  | _ + 1 => hashA_le _ _
theorem bare_one {digits : Int} {b b0 dp : Array UInt8} {t : Tok} (h : b = hashA digits (b0 ++ #[1] ++ dp)) : BAre [.bytes b t] ((List.range (0 + 1)).map (chainA digits b0 dp)) := by
  refine ⟨rfl, fun i c hc => ?_⟩
  cases i with
  | zero =>
    have e : chainA digits b0 dp 0 = c := by simpa using hc
    exact ⟨t, by rw [← e, h]; rfl⟩
  | succ k => simp at hc
theorem bare_app {vs : List Value} {cs : List (Array UInt8)} {b : Array UInt8} {t : Tok} (h : BAre vs cs) : BAre (vs ++ [.bytes b t]) (cs ++ [b]) := by
  refine ⟨by simp [h.1], fun i c hc => ?_⟩
  rcases Nat.lt_or_ge i cs.length with hi | hi
  · rw [List.getElem?_append_left hi] at hc
    obtain ⟨t', ht⟩ := h.2 i c hc
    exact ⟨t', by rw [List.getElem?_append_left (by rw [h.1]; exact hi)]; exact ht⟩
  · rw [List.getElem?_append_right hi] at hc
    have : i = cs.length := by
      rcases Nat.lt_or_ge (i - cs.length) 1 with h1 | h1
      · omega
      · rw [List.getElem?_eq_none (by simpa using h1)] at hc; cases hc
    subst this
    have e : b = c := by simpa using hc
    exact ⟨t, by rw [← e, ← h.1]; simp⟩
theorem bare_next {digits : Int} {b b0 dp xb cb : Array UInt8} {vs : List Value} {t : Tok} {i : Nat} (hv : BAre vs ((List.range (i + 1)).map (chainA digits b0 dp))) (hc : cb = chainA digits b0 dp i) (hx : xb = xorA b0 cb) (h : b = hashA digits (xb ++ byteArr [2 + (i : Int)] ++ dp)) :
    BAre (vs ++ [.bytes b t]) ((List.range (i + 1 + 1)).map (chainA digits b0 dp)) := by
  rw [List.range_succ, List.map_append, List.map_singleton]
  have e : chainA digits b0 dp (i + 1) = b := by rw [h, hx, hc]; rfl
  rw [e]
  exact bare_app hv
section
variable {prog : Program} {w : World} {A : Around} {E : Value → Shared → Prop} {s : Shared} {h₀ : Heap} {L : Addr}
theorem chain_item {news : List (Addr × Obj)} {value slice : PySem.Expr} {a : Addr} {vs : List Value} {cap : Nat} {k : Int} {u : Tok} {Q : Value → Shared → Prop} {digits : Int} {b0 dp : Array UInt8} {i : Nat}
    (hv : BAre vs ((List.range (i + 1)).map (chainA digits b0 dp))) (N : News h₀ L s.heap news) (hm : (a, W.listOf vs.toArray cap) ∈ news) (hk : k = (i : Int)) (hn : i < 100)
    (h : ∀ b t, b = chainA digits b0 dp i → b.size ≤ 77 → Q (.bytes b t) s)
    (hs : subscripted slice false (.ref a) (.int k u) = operate [.ref a, .int k u] (getItem (.ref a) (.int k u)) := by with_unfolding_all rfl) (hg : ∀ r, letTemporaryGo value (.ref a) r = pure () := by intro _; with_unfolding_all rfl) :
    wpAny (model prog w) A (subscriptTail value slice (.ref a) (.int k u)) Q E s := by
  subst hk
  obtain ⟨t, hx⟩ := hv.2 i (chainA digits b0 dp i) (by simp)
  exact kim_list N hm rfl rfl (by omega) (by omega) (by rw [Int.toNat_natCast]; exact hx) (h _ t rfl (chainA_le _ _ _ _)) hs hg
end
inductive KExp (l : Addr) (news : List (Addr × Obj)) (digits : Int) (b0 dp : Array UInt8) (g0 : Array GenState) (i : Nat) (nw : List (Addr × Obj)) (gn : Array GenState) : Prop
  | mk : ∀ ps' vs cap, (nw = (l, W.listOf vs.toArray cap) :: (59, tabObj ps') :: news) → (TabX xpos ps') → (BAre vs ((List.range (i + 1)).map (chainA digits b0 dp))) → ((AllBare g0 → AllBare gn)) → KExp l news digits b0 dp g0 i nw gn
theorem KExp.zero {l : Addr} {news : List (Addr × Obj)} {digits : Int} {b b0 dp : Array UInt8} {t : Tok} {cap : Nat} {ps : Array Value} {g0 : Array GenState} (e : b = hashA digits (b0 ++ #[1] ++ dp)) (ht : TabX xpos ps) :
    KExp l news digits b0 dp g0 0 ((l, W.listOf #[.bytes b t] cap) :: (59, tabObj ps) :: news) g0 := ⟨ps, [.bytes b t], cap, rfl, ht, bare_one e, fun h => h⟩
theorem KExp.next {l : Addr} {news : List (Addr × Obj)} {digits : Int} {b b0 dp xb cb : Array UInt8} {vs : List Value} {t : Tok} {cap i : Nat} {ps : Array Value} {g0 gn : Array GenState}
    (hv : BAre vs ((List.range (i + 1)).map (chainA digits b0 dp))) (hc : cb = chainA digits b0 dp i) (hx : xb = xorA b0 cb) (h : b = hashA digits (xb ++ byteArr [2 + (i : Int)] ++ dp)) (ht : TabX xpos ps) (hg : AllBare g0 → AllBare gn) :
    KExp l news digits b0 dp g0 (i + 1) ((l, W.listOf (vs.toArray.push (.bytes b t)) cap) :: (59, tabObj ps) :: news) gn := ⟨ps, vs ++ [.bytes b t], cap, by rw [List.push_toArray], ht, bare_next hv hc hx h, hg⟩
theorem news_rot2 {h₀ h : Heap} {L : Addr} {a b c : Addr × Obj} {r : List (Addr × Obj)} (N : News h₀ L h (a :: b :: c :: r)) : News h₀ L h (c :: a :: b :: r) := fun p hp => by
  simp only [List.mem_cons] at hp
  apply N p
  simp only [List.mem_cons]
  rcases hp with h | h | h | h
  · exact .inr (.inr (.inl h))
  · exact .inl h
  · exact .inr (.inl h)
  · exact .inr (.inr (.inr h))
theorem lay62 : True := by
  k_with "m:binaryOp Add bytes bytes" => ((with_reducible show wpAny _ _ (binaryOp Operator.Add (Value.bytes _ _) (Value.bytes _ _)) _ _ _); (refine' KBy.add_bytes (sz_sum ?s1q7 ?s2q7 ?s3q7) ?_); (case s1q7 => (repeat (first | with_reducible assumption | with_reducible exact hashA_le _ _ | with_reducible exact sz_b1 _ | with_reducible exact sz_b2 _ _ | with_reducible exact sz_b3 _ _ _ | with_reducible apply sz_add | with_reducible exact xorA_le (by assumption) | with_reducible exact sz_lit1 _ | with_reducible exact sz_xi (by with_reducible assumption) | exact sz_zero _ (by assumption)))); (case s2q7 => (repeat (first | with_reducible assumption | with_reducible exact hashA_le _ _ | with_reducible exact sz_b1 _ | with_reducible exact sz_b2 _ _ | with_reducible exact sz_b3 _ _ _ | with_reducible apply sz_add | with_reducible exact xorA_le (by assumption) | with_reducible exact sz_lit1 _ | with_reducible exact sz_xi (by with_reducible assumption) | exact sz_zero _ (by assumption)))); (case s3q7 => decide); intro t'q k'q)
  k_with "m:call ref" => ((with_reducible show wpAny _ _ (call (Value.ref _) [Value.bytes _ _] _) _ _ _); (rename HashC _ _ _ _ _ _ _ _ => hc9q); (k_dflt (refine' hc9q ?qFq7 ?qKq7 ?qDq7 ?qUq7 ?q1q7 ?q2q7 ?q3q7 ?q4q7 ?q5q7 ?m1q7 ?m2q7 ?m3q7 ?qCq7 ?qsq7 ?_; (case qFq7 => first | assumption | exact rfl); (case qKq7 => first | assumption | exact rfl); (case qDq7 => ((try simp +zetaDelta only [depth_mark, depth_under_make, depth_under_kw, depth_in1, depth_deeper]); (try dsimp only); omega)); (case qUq7 => ((try simp +zetaDelta only [units_under_make, units_in1, units_deeper, Around.mark_units]); (try dsimp only); omega)); (case q1q7 => k_asm); (case q2q7 => k_asm); (case q3q7 => k_asm); (case q4q7 => k_asm); (case q5q7 => k_asm); (case m1q7 => (repeat (first | with_reducible assumption | with_reducible exact List.mem_cons_self | with_reducible apply List.mem_cons_of_mem))); (case m2q7 => (repeat (first | with_reducible assumption | with_reducible exact List.mem_cons_self | with_reducible apply List.mem_cons_of_mem))); (case m3q7 => (repeat (first | with_reducible assumption | with_reducible exact List.mem_cons_self | with_reducible apply List.mem_cons_of_mem))); (case qCq7 => assumption); (case qsq7 => (refine' Nat.le_trans ?s1q7 ?s2q7; (case s1q7 => (repeat (first | with_reducible assumption | with_reducible exact hashA_le _ _ | with_reducible exact sz_b1 _ | with_reducible exact sz_b2 _ _ | with_reducible exact sz_b3 _ _ _ | with_reducible apply sz_add | with_reducible exact xorA_le (by assumption) | with_reducible exact sz_lit1 _ | with_reducible exact sz_xi (by with_reducible assumption) | exact sz_zero _ (by assumption)))); (case s2q7 => decide))); k_whole; intro b'q t'q h'q tk'q eb'q bs'q F'q N'q; (try dsimp only); (try k_sweep))))
  k_with "m:callWith ref" => first | ((with_reducible show wpAny _ _ (callWith _ (Value.ref _) _ (backTo _ (starEach (_ :: _) _)) []) _ _ _); (rename IsFnO _ => fo9q); (k_dflt (refine' callWith_F ?k1q7 ?_; (case k1q7 => exact fnAt_of (by k_asm) (by (repeat (first | with_reducible assumption | with_reducible exact List.mem_cons_self | with_reducible apply List.mem_cons_of_mem))) fo9q); k_whole)))
  k_with "m:And" => first | ((with_reducible show FnAt _ _ ∧ _); (k_dflt (refine ⟨fnAt_of (by k_asm) (by (repeat (first | with_reducible assumption | with_reducible exact List.mem_cons_self | with_reducible apply List.mem_cons_of_mem))) (by assumption), ?_⟩)); (try dsimp only [List.nil_append, List.cons_append]))
  k_with "m:exec For Name Call cons nil" => ((rename Fr _ _ _ _ => lF'q); (k_dflt (refine' For_GF lF'q ?hhq7 ?k1q7 ?k2q7 ?_; (case hhq7 => exact rfl); (case k1q7 => exact rfl); (case k2q7 => exact rfl); k_whole)))
  trivial
theorem chain_sum (digits : Int) (b0 dp : Array UInt8) : ∀ k, (((List.range k).map (chainA digits b0 dp)).map (·.size)).sum ≤ 77 * k
  | 0 => by simp
  | k + 1 => by
    rw [List.range_succ, List.map_append, List.map_append, List.sum_append]
    have h1 := chain_sum digits b0 dp k
    have h2 := chainA_le digits b0 dp k
    simp only [List.map_singleton, List.sum_singleton]
    omega
theorem ex_list {h₀ h : Heap} {L l : Addr} {vs : List Value} {cap : Nat} {news : List (Addr × Obj)} (N : News h₀ L h news) (hm : (l, W.listOf vs.toArray cap) ∈ news) : h.IsList l vs.toArray := ⟨_, (N _ hm).1, rfl, _, rfl⟩
noncomputable def uniA (digits size e : Int) (b0 dp : Array UInt8) : Array UInt8 := KBy.picked (((List.range ((e + 1 - 2).toNat + 1)).map (chainA digits b0 dp)).foldl (· ++ ·) #[]) none (some size)
theorem uniA_le {digits size e : Int} {b0 dp : Array UInt8} (he : e ≤ 4) : (uniA digits size e b0 dp).size ≤ 400 := by
  refine Nat.le_trans (KBc.size_picked_le _ _ _) ?_
  rw [jl_size]
  exact Nat.le_trans (chain_sum _ _ _ _) (by omega)
theorem lay63 : True := by
  k_with "m:getMethod bytes" => (k_here; (with_reducible refine bj_method ?_))
  k_with "m:call builtin:bytes.join" => ((with_reducible rename BAre _ _ => bar9q); (k_dflt (refine' call_bjoin ?jlq7 bar9q ?j0q7 ?jsq7 ?_; (case jlq7 => exact ex_list (by k_asm) (by k_mem)); (case j0q7 => omega); (case jsq7 => exact Nat.le_trans (chain_sum _ _ _ _) (by omega)))); intro t'q k'q)
  k_with "m:subscriptTail" => (k_here; (with_reducible show wpAny _ _ (subscriptTail _ (Expr.Slice _ _ none _) (Value.bytes (List.foldl _ _ _) _) (Value.ref _)) _ _ _); (with_reducible rename Fr _ _ _ _ => F'q); (with_reducible rename News _ _ _ _ => N'q); (refine KBc.slice_K (s := ⟨_, _, _, _, _⟩) F'q N'q rfl (by constructor) (by constructor) (by rw [KBw.ints_length, jl_size]; exact Nat.le_trans (chain_sum _ _ _ _) (by omega)) ?_); intro _ _ _ _ _ kbcKq; clear kbcKq)
  trivial
theorem off59 {I l : Addr} {a b : Obj} {news : List (Addr × Obj)} (h1 : I ≠ 59) (h2 : l ≠ 59) (h : ∀ p ∈ news, p.1 ≠ 59) : ∀ p ∈ (I, a) :: (l, b) :: news, p.1 ≠ 59 := by
  intro p hp
  rcases List.mem_cons.mp hp with rfl | hp
  · exact h1
  · rcases List.mem_cons.mp hp with rfl | hp
    · exact h2
    · exact h p hp
theorem off2 {I l P : Addr} {a b c d : Obj} {news : List (Addr × Obj)} (h : ∀ p ∈ (l, a) :: (P, b) :: news, p.1 ≠ I) : ∀ p ∈ (l, c) :: (P, d) :: news, p.1 ≠ I := by
  intro p hp
  rcases List.mem_cons.mp hp with rfl | hp
  · exact h (l, a) (.head _)
  · rcases List.mem_cons.mp hp with rfl | hp
    · exact h (P, b) (.tail _ (.head _))
    · exact h p (.tail _ (.tail _ hp))
theorem lay64 : True := by
  k_with "m:call ref" => ((with_reducible show wpAny _ _ (call (Value.ref 64) [Value.bytes _ _, Value.bytes _ _] _) _ _ _); (k_dflt (refine' xor_c ?qFq7 ?qKq7 ?qDq7 ?qUq7 ?q1q7 ?q2q7 ?q3q7 ?q4q7 ?q5q7 ?xtq7 ?xsq7 ?ysq7 ?xCq7 ?xnq7 ?_; (case qFq7 => first | assumption | exact rfl); (case qKq7 => first | assumption | exact rfl); (case qDq7 => ((try simp +zetaDelta only [depth_mark, depth_under_make, depth_under_kw, depth_in1, depth_deeper]); (try dsimp only); omega)); (case qUq7 => ((try simp +zetaDelta only [units_under_make, units_in1, units_deeper, Around.mark_units]); (try dsimp only); omega)); (case q1q7 => k_asm); (case q2q7 => k_asm); (case q3q7 => k_asm); (case q4q7 => exact news_rot2 (by k_asm)); (case q5q7 => k_asm); (case xtq7 => with_reducible assumption); (case xsq7 => with_reducible assumption); (case ysq7 => with_reducible assumption); (case xCq7 => assumption); (case xnq7 => exact off59 (by assumption) (by assumption) (by assumption)); k_whole; intro ps'q b'q t'q h'q tk'q gn'q ht'q eb'q bs'q F'q N'q gb'q; (try dsimp only); (try k_sweep))))
  k_with "m:subscriptTail Name BinOp ref int" => ((with_reducible show wpAny _ _ (subscriptTail _ _ (Value.ref _) (Value.int _ _)) _ _ _); (with_reducible rename BAre _ _ => bar9q); (k_dflt (refine' chain_item bar9q ?cNq7 ?cmq7 ?ckq7 ?cnq7 ?_; (case cNq7 => k_asm); (case cmq7 => k_mem); (case ckq7 => omega); (case cnq7 => omega))); intro b'q t'q eb'q bs'q)
  trivial
section
variable {w : World} {p : Program} {loose : List Str} {mean : ExcName → Option Value} {mg mb : Str → Option Value} {dp un : Nat} {gd : Option (List Code)} {A₀ : Around} {env : Env} {outer : List Env} {base h₀ : Heap} {L : Addr} {m : Str → Option Value} {s : Shared} {Q E : Value → Shared → Prop} {news : List (Addr × Obj)}
set_option maxRecDepth 100000 in
set_option maxHeartbeats 8000000 in
theorem exp_c {f : Addr} {fo : Obj} {c : Addr} {oc : Obj} {cl : Addr} {co : Obj} {msg mark : Array UInt8} {tm tk tl td tb : Tok} {size digits block e : Int} {ps : Array Value}
    (hf : env.frame = some L) (hke : env.scope.kind = .function) (hdp : dp ≤ 700) (hun : un ≤ 7000)
    (B : Below A₀ base outer h₀) (F : Fr h₀ L s.heap m) (X : (hd.heap_1 w.params).In h₀) (N : News h₀ L s.heap ((59, tabObj ps) :: news)) (T : Top p loose mean mg mb h₀)
    (HC : HashC w digits f fo c oc cl co) (hfo : IsFnO fo) (hm1 : (f, fo) ∈ news) (hm2 : (c, oc) ∈ news) (hm3 : (cl, co) ∈ news)
    (ht : TabX xpos ps) (C : CodeW base 63 59) (C2 : CodeW base 613 609) (hne : ∀ p ∈ news, p.1 ≠ 59)
    (hd1 : 48 ≤ digits) (hd2 : digits ≤ 71) (hb1 : 0 ≤ block) (hb2 : block < 9) (hmg : msg.size ≤ 8) (hmk : mark.size ≤ 6)
    (hs0 : 0 ≤ size) (hs1 : size < 65536) (he : -((-size).fdiv digits) = e) (he0 : 0 ≤ e) (he4 : e ≤ 4)
    (hret : ∀ (ps' : Array Value) (b0 b : Array UInt8) (t : Tok) (h' : Heap) (tk' : Nat) (gn : Array GenState), TabX xpos ps' → b0 = hashA digits (((List.replicate block.toNat [0]).flatten).toArray ++ msg ++ byteArr [size / 256, size % 256] ++ #[0] ++ (mark ++ byteArr [(mark.size : Int)])) → Fr h₀ L h' m → News h₀ L h' ((59, tabObj ps') :: news) → (AllBare s.gens → AllBare gn) → b = uniA digits size (-((-size).fdiv digits)) b0 (mark ++ byteArr [(mark.size : Int)]) → b.size ≤ 400 → Q (.bytes b t) { s with heap := h', toks := tk', gens := gn }) :
    wpAny (model PR w) (ar dp un gd env outer) (call (.ref 71) [.bytes msg tm, .bytes mark tk, .int size tl, .ref f, .int digits td, .int block tb]) Q E s := by
  refine wpAny_call ?_
  k_dflt k_enter
  k_steps
  with_reducible rename (_ = hashA digits (_ ++ #[1] ++ _)) => e1
  with_reducible rename (_ = hashA digits (_ ++ _ ++ _ ++ _ ++ _)) => e0
  refine' ForG.of (KExp _ news digits _ _ _) ?hr ?hs ?hn ?F ?N ?h0 ?turn ?done
  case hr => assumption
  case F => k_asm
  case N => k_asm
  case h0 => exact KExp.zero e1 ht
  case hn => exact rangeSize_nat _ _
  case hs => exact small_one (by omega) (by omega) (by omega) (by omega)
  case turn =>
    rintro I i t nw h tk gn hi hI ⟨ps', vs, cap, rfl, ht', hv, hb⟩ hoff FF NN
    have hI1 : (59 : Nat) < I := hI (59, tabObj ps) (.tail _ (.head _))
    rename (_ ∧ AllLt _ _) => lA
    have hnl := fun p hp => Nat.ne_of_lt (kst_ltOf lA.2 p hp)
    have hl59 := Nat.ne_of_gt lA.1
    have hI2 := Nat.ne_of_gt hI1
    have hlA : (59 : Nat) < _ := lA.1
    have hIl : (_ : Nat) < I := hI _ (.head _)
    dsimp only at hIl
    have hvl : vs.length = i + 1 := by rw [hv.1]; simp
    clear lA hI ht N hret
    k_steps
    with_reducible rename (_ = chainA _ _ _ _) => c1
    with_reducible rename (_ = xorA _ _) => c2
    with_reducible rename (_ = hashA digits (_ ++ byteArr _ ++ _)) => c3
    refine' ForGEnd.intro ?F9 ?N9 ?sub9 (off2 hoff) ?jj
    case F9 => k_asm
    case N9 => k_asm
    case sub9 => exact List.forall_mem_cons.mpr ⟨by (repeat (first | exact List.Mem.head _ | apply List.Mem.tail)), List.forall_mem_cons.mpr ⟨by (repeat (first | exact List.Mem.head _ | apply List.Mem.tail)), List.forall_mem_cons.mpr ⟨by (repeat (first | exact List.Mem.head _ | apply List.Mem.tail)), fun p hp => .tail _ (.tail _ (.tail _ hp))⟩⟩⟩
    case jj => exact And.intro (by kba_same) (KExp.next (by with_reducible assumption) c1 c2 c3 (by with_reducible assumption) (fun hg => by refine (?gf : AllBare _ → AllBare _) ?gx; (case gf => assumption); (case gx => exact hb hg)))
  case done =>
    rintro u h tk gn nw ⟨ps', vs, cap, rfl, ht', hv, hb⟩ FF NN
    have hvl : vs.length ≠ 0 := by rw [hv.1]; simp
    k_steps
    exact hret _ _ _ _ _ _ _ (by with_reducible assumption) (by with_reducible assumption) (by k_asm) (cb_drop (by k_asm) (by repeat (first | exact (fun _ h9 => h9) | refine sub_tail ?_))) (by with_reducible assumption) rfl (uniA_le (by omega))
end

-- piece h2f
theorem pick64_le (b : Array UInt8) (a : Nat) : (KBy.picked b (some (a : Int)) (some ((a : Int) + 64))).size ≤ 64 := by
  rw [KBc.picked_eq, List.size_toArray, List.length_take, List.length_drop]
  simp only [Option.elim]
  have e : ((a : Int) + 64) = ((a + 64 : Nat) : Int) := by omega
  rw [e, clipAt_nat, clipAt_nat]
  omega
noncomputable def hvA (U : Array UInt8) (p : Int) (i : Nat) : Int := KFB.value (KBw.bInts (KBy.picked U (some (64 * (i : Int))) (some (64 * (i : Int) + 64)))) % p
noncomputable def FqAll (P : Params) (p : Int) (objs : List (Addr × Obj)) (vs : List Value) (ns : List Int) : Prop :=
  vs.length = ns.length ∧ ∀ (i : Nat) (n : Int), ns[i]? = some n → ∃ a d t1 t2 t3 t4, vs[i]? = some (.ref a) ∧ (a, instObj 530 d) ∈ objs ∧ (d, fqD P p n t1 t2 t3 t4) ∈ objs
theorem FqAll.nil (P : Params) (p : Int) (objs : List (Addr × Obj)) : FqAll P p objs [] [] := ⟨rfl, fun _ _ h => by simp at h⟩
theorem FqAll.app {P : Params} {p : Int} {objs : List (Addr × Obj)} {vs : List Value} {ns : List Int} {a d : Addr} {n : Int} {t1 t2 t3 t4 : Tok} (h : FqAll P p objs vs ns) :
    FqAll P p ((a, instObj 530 d) :: (d, fqD P p n t1 t2 t3 t4) :: objs) (vs ++ [.ref a]) (ns ++ [n]) := by
  refine ⟨by simp [h.1], fun i m hm => ?_⟩
  rcases Nat.lt_or_ge i ns.length with hi | hi
  · rw [List.getElem?_append_left hi] at hm
    obtain ⟨a', d', s1, s2, s3, s4, h1, h2, h3⟩ := h.2 i m hm
    exact ⟨a', d', s1, s2, s3, s4, by rw [List.getElem?_append_left (by rw [h.1]; exact hi)]; exact h1, .tail _ (.tail _ h2), .tail _ (.tail _ h3)⟩
  · rw [List.getElem?_append_right hi] at hm
    have : i = ns.length := by
      rcases Nat.lt_or_ge (i - ns.length) 1 with h1 | h1
      · omega
      · rw [List.getElem?_eq_none (by simpa using h1)] at hm; cases hm
    subst this
    have e : n = m := by simpa using hm
    subst e
    exact ⟨a, d, t1, t2, t3, t4, by rw [← h.1]; simp, .head _, .tail _ (.head _)⟩
inductive KH (P : Params) (p : Int) (U : Array UInt8) (l : Addr) (led : List (Addr × Obj)) (g0 : Array GenState) (i : Nat) (nw : List (Addr × Obj)) (gn : Array GenState) : Prop
  | mk : ∀ vs cap objs, (nw = (l, W.listOf vs.toArray cap) :: (objs ++ led)) → (FqAll P p objs vs ((List.range i).map (hvA U p))) → ((∀ q ∈ objs, q.1 ≠ 59)) → ((∀ q ∈ objs, q.1 ≠ l)) → (gn = g0) → KH P p U l led g0 i nw gn
theorem KH.zero {P : Params} {p : Int} {U U' : Array UInt8} {l : Addr} {led : List (Addr × Obj)} {g0 : Array GenState} {cap : Nat} (_e : U = U') : KH P p U l led g0 0 ((l, W.listOf #[] cap) :: led) g0 :=
  ⟨[], cap, [], rfl, FqAll.nil _ _ _, (fun _ h => nomatch h), (fun _ h => nomatch h), rfl⟩
theorem KH.next {P : Params} {p n : Int} {U : Array UInt8} {l a d : Addr} {led objs : List (Addr × Obj)} {g0 : Array GenState} {cap i : Nat} {vs : List Value} {t1 t2 t3 t4 : Tok} (hv : FqAll P p objs vs ((List.range i).map (hvA U p))) (h59 : ∀ q ∈ objs, q.1 ≠ 59) (hol : ∀ q ∈ objs, q.1 ≠ l)
    (ha : a ≠ 59) (hd : d ≠ 59) (ha2 : a ≠ l) (hd2 : d ≠ l) (he : n = hvA U p i) :
    KH P p U l led g0 (i + 1) ((l, W.listOf (vs.toArray.push (.ref a)) cap) :: (((a, instObj 530 d) :: (d, fqD P p n t1 t2 t3 t4) :: objs) ++ led)) g0 := by
  refine ⟨vs ++ [.ref a], cap, _, by rw [List.push_toArray], ?_, ?_, ?_, rfl⟩
  · rw [List.range_succ, List.map_append, List.map_singleton, ← he]
    exact FqAll.app hv
  · exact List.forall_mem_cons.mpr ⟨ha, List.forall_mem_cons.mpr ⟨hd, h59⟩⟩
  · exact List.forall_mem_cons.mpr ⟨ha2, List.forall_mem_cons.mpr ⟨hd2, hol⟩⟩
theorem h2f_off {objs news : List (Addr × Obj)} {l : Addr} {o : Obj} (h1 : ∀ q ∈ objs, q.1 ≠ l) (h2 : (59 : Nat) ≠ l) (h3 : AllLt l news) : ∀ q ∈ objs ++ (59, o) :: news, q.1 ≠ l := by
  intro q hq
  rcases List.mem_append.mp hq with hq | hq
  · exact h1 q hq
  · rcases List.mem_cons.mp hq with rfl | hq
    · exact h2
    · exact Nat.ne_of_lt (kst_ltOf h3 q hq)
theorem h2f_val {U : Array UInt8} {p : Int} {i : Nat} (hp : 0 < p) : ((KFB.value (KBw.bInts (KBy.picked U (some (64 * ((0 + (i : Int)) * 1))) (some (64 * ((0 + (i : Int)) * 1) + 64))))).fmod p) % p = hvA U p i := by
  rw [fmod_emod hp, Int.zero_add, Int.mul_one]
  rfl
theorem off2b {I l : Addr} {a c : Obj} {r : List (Addr × Obj)} {x d : Addr} {o1 o2 : Obj} (h : ∀ p ∈ (l, a) :: r, p.1 ≠ I) (hx : x ≠ I) (hd : d ≠ I) : ∀ p ∈ (l, c) :: (x, o1) :: (d, o2) :: r, p.1 ≠ I := by
  intro p hp
  rcases List.mem_cons.mp hp with rfl | hp
  · exact h (l, a) (.head _)
  · rcases List.mem_cons.mp hp with rfl | hp
    · exact hx
    · rcases List.mem_cons.mp hp with rfl | hp
      · exact hd
      · exact h p (.tail _ hp)
theorem lay65 : True := by
  k_with "m:call type:tuple" => (k_here; (with_reducible show wpAny _ _ (call (Value.type _) [Value.ref _]) _ _ _); k_dflt (refine' kde_tupleOf ?k1q7 ?k2q7 ?k3q7 ?k4q7 ?k5q7 ?_; (case k1q7 => k_asm); (case k2q7 => k_asm); (case k3q7 => exact ex_list (by k_asm) (by k_mem)); (case k4q7 => (rw [List.size_toArray]; omega)); (case k5q7 => exact rfl); k_whole); intro D'q h'q F'q N'q l1q; (try k_sweep))
  trivial
theorem news_drop2 {h₀ h : Heap} {L : Addr} {a b : Addr × Obj} {r : List (Addr × Obj)} (N : News h₀ L h (a :: b :: r)) : News h₀ L h (a :: r) := fun p hp => by
  rcases List.mem_cons.mp hp with rfl | hp
  · exact N _ (.head _)
  · exact N _ (.tail _ (.tail _ hp))
theorem pick64_int {b : Array UInt8} {x y : Int} (h0 : 0 ≤ x) (h : y = x + 64) : (KBy.picked b (some x) (some y)).size ≤ 100 := by
  obtain ⟨n, rfl⟩ := Int.eq_ofNat_of_zero_le h0
  subst h
  exact Nat.le_trans (pick64_le b n) (by decide)
theorem lay66 : True := by
  k_with "m.k_mem" => (repeat (first | with_reducible assumption | with_reducible exact List.mem_cons_self | apply List.mem_cons_of_mem | apply List.mem_append_right))
  trivial
theorem ell_lo {S d : Int} (h0 : 0 ≤ S) (hd : 48 ≤ d) : 0 ≤ -((-S).fdiv d) := by
  rw [Int.fdiv_eq_ediv_of_nonneg _ (by omega)]
  have h : (-S) / d ≤ 0 := Int.ediv_nonpos_of_nonpos_of_neg (by omega) (by omega)
  omega
theorem ell_hi {S d : Int} (h1 : S ≤ 192) (hd : 48 ≤ d) : -((-S).fdiv d) ≤ 4 := by
  rw [Int.fdiv_eq_ediv_of_nonneg _ (by omega)]
  have h : -4 ≤ (-S) / d := (Int.le_ediv_iff_mul_le (by omega)).mpr (by omega)
  omega
theorem lay67 : True := by
  k_with "m:call ref" => ((with_reducible show wpAny _ _ (call (Value.ref 71) [Value.bytes _ _, Value.bytes _ _, Value.int _ _, Value.ref _, Value.int _ _, Value.int _ _] _) _ _ _); (with_reducible rename HashC _ _ _ _ _ _ _ _ => hc9q); (with_reducible rename IsFnO _ => fo9q); (k_dflt (refine' exp_c (e := _) ?qFq7 ?qKq7 ?qDq7 ?qUq7 ?q1q7 ?q2q7 ?q3q7 ?q4q7 ?q5q7 hc9q fo9q ?m1q7 ?m2q7 ?m3q7 ?xtq7 ?xCq7 ?xC2q7 ?xnq7 ?d1q7 ?d2q7 ?b1q7 ?b2q7 ?g1q7 ?g2q7 ?s0q7 ?s1q7 rfl ?e0q7 ?e4q7 ?_; (case qFq7 => first | assumption | exact rfl); (case qKq7 => first | assumption | exact rfl); (case qDq7 => ((try simp +zetaDelta only [depth_mark, depth_under_make, depth_under_kw, depth_in1, depth_deeper]); (try dsimp only); omega)); (case qUq7 => ((try simp +zetaDelta only [units_under_make, units_in1, units_deeper, Around.mark_units]); (try dsimp only); omega)); (case q1q7 => k_asm); (case q2q7 => k_asm); (case q3q7 => k_asm); (case q4q7 => k_asm); (case q5q7 => k_asm); (case m1q7 => with_reducible assumption); (case m2q7 => with_reducible assumption); (case m3q7 => with_reducible assumption); (case xtq7 => with_reducible assumption); (case xCq7 => assumption); (case xC2q7 => assumption); (case xnq7 => assumption); (case d1q7 => assumption); (case d2q7 => assumption); (case b1q7 => assumption); (case b2q7 => assumption); (case g1q7 => assumption); (case g2q7 => assumption); (case s0q7 => omega); (case s1q7 => omega); (case e0q7 => exact ell_lo (by omega) (by assumption)); (case e4q7 => exact ell_hi (by omega) (by assumption)); k_whole; intro ps'q b0'q b'q t'q h'q tk'q gn'q ht'q eb0'q F'q N'q gb'q eb'q bs'q; (try dsimp only); (try k_sweep))))
  k_with "m:call ref" => ((with_reducible show wpAny _ _ (call (Value.ref 513) [Value.ref _, Value.int _ _] _) _ _ _); k_dflt (refine' fq530_made ?qFq7 ?qKq7 ?qDq7 ?qUq7 ?q1q7 ?q2q7 ?q3q7 ?q4q7 ?q5q7 ?rxq7 ?rdxq7 ?rqq7 ?_; (k_extra "std"); (case rxq7 => k_mem); (case rdxq7 => k_mem); (case rqq7 => (first | assumption | omega)); k_whole; intro x'q dx'q t1'q t2'q t3'q t4'q h'q tk'q F'q N'q l1q l2q b1q b2q; (try dsimp only); (try k_sweep); (have q0'q : @LT.lt Nat _ _ _ := l1q _ (.head _)); (have q1'q : @LT.lt Nat _ _ _ := l1q _ (.tail _ (.head _))); (have q2'q : @LT.lt Nat _ _ _ := l2q); clear l1q l2q; dsimp only at q0'q q1'q))
  k_with "m:call ref" => ((with_reducible show wpAny _ _ (call (Value.ref 57) [Value.bytes _ _] _) _ _ _); k_dflt (refine' os2ip_c ?qFq7 ?qKq7 ?qDq7 ?qUq7 ?q1q7 ?q2q7 ?q3q7 ?q4q7 ?q5q7 ?r0q7 ?_; (k_extra "std"); (case r0q7 => (first | assumption | exact pick64_int (by omega) (by omega))); k_whole; intro t'q h'q tk'q F'q N'q; (try dsimp only); (try k_sweep)))
  trivial
section
variable {w : World} {p : Program} {loose : List Str} {mean : ExcName → Option Value} {mg mb : Str → Option Value} {dp un : Nat} {gd : Option (List Code)} {A₀ : Around} {env : Env} {outer : List Env} {base h₀ : Heap} {L : Addr} {m : Str → Option Value} {s : Shared} {Q E : Value → Shared → Prop} {news : List (Addr × Obj)}
set_option maxRecDepth 100000 in
set_option maxHeartbeats 8000000 in
theorem h2f_c {f : Addr} {fo : Obj} {c : Addr} {oc : Obj} {cl : Addr} {co : Obj} {msg mark : Array UInt8} {tm tk tl td tb : Tok} {count digits block p' : Int} {ps : Array Value} {fa fd : Addr} {a1 a2 a3 a4 : Tok}
    (hf : env.frame = some L) (hke : env.scope.kind = .function) (hdp : dp ≤ 600) (hun : un ≤ 6000)
    (B : Below A₀ base outer h₀) (F : Fr h₀ L s.heap m) (X : (hd.heap_1 w.params).In h₀) (N : News h₀ L s.heap ((59, tabObj ps) :: news)) (T : Top p loose mean mg mb h₀)
    (HC : HashC w digits f fo c oc cl co) (hfo : IsFnO fo) (hm1 : (f, fo) ∈ news) (hm2 : (c, oc) ∈ news) (hm3 : (cl, co) ∈ news) (hx1 : (fa, instObj 530 fd) ∈ news) (hx2 : (fd, fqD w.params p' 0 a1 a2 a3 a4) ∈ news)
    (ht : TabX xpos ps) (C : CodeW base 63 59) (C2 : CodeW base 613 609) (hne : ∀ p ∈ news, p.1 ≠ 59)
    (hd1 : 48 ≤ digits) (hd2 : digits ≤ 71) (hb1 : 0 ≤ block) (hb2 : block < 9) (hmg : msg.size ≤ 8) (hmk : mark.size ≤ 6)
    (hc0 : 0 ≤ count) (hc1 : count < 4) (hp' : 7 ≤ p') (hp2 : p' ≤ 127)
    (hret : ∀ (ps' : Array Value) (b0 U : Array UInt8) (D : Addr) (vs : List Value) (objs : List (Addr × Obj)) (h' : Heap) (tk' : Nat) (gn : Array GenState), TabX xpos ps' → b0 = hashA digits (((List.replicate block.toNat [0]).flatten).toArray ++ msg ++ byteArr [count * 1 * 64 / 256, count * 1 * 64 % 256] ++ #[0] ++ (mark ++ byteArr [(mark.size : Int)])) →
      U = uniA digits (count * 1 * 64) (-((-(count * 1 * 64)).fdiv digits)) b0 (mark ++ byteArr [(mark.size : Int)]) → FqAll w.params p' objs vs ((List.range (count - 0).toNat).map (hvA U p')) → Fr h₀ L h' m → News h₀ L h' ((D, ({ cls := .type "tuple", data := .seq vs.toArray } : Obj)) :: (objs ++ (59, tabObj ps') :: news)) → (AllBare s.gens → AllBare gn) → Q (.ref D) { s with heap := h', toks := tk', gens := gn }) :
    wpAny (model PR w) (ar dp un gd env outer) (call (.ref 78) [.bytes msg tm, .int count tl, .bytes mark tk, .ref f, .int digits td, .int block tb, .ref fa]) Q E s := by
  refine wpAny_call ?_
  k_dflt k_enter
  k_steps
  with_reducible rename (_ = uniA _ _ _ _ _) => e1
  refine' ForG.ofS ["elem_offset", "tv"] (KH w.params p' _ _ _ _) ?hr ?hs ?hn ?F ?N ?h0 ?turn ?done
  case hr => assumption
  case F => k_asm
  case N => k_asm
  case h0 => exact KH.zero e1
  case hn => exact rangeSize_nat _ _
  case hs => exact small_one (by omega) (by omega) (by omega) (by omega)
  case turn =>
    rintro I i t u nw h tk gn hi hI ⟨vs, cap, objs, rfl, hv, h59, hol, rfl⟩ hoff FF NN
    rename (_ ∧ AllLt _ _) => lA
    have hvl : vs.length = i := by rw [hv.1]; simp
    have hlA : (59 : Nat) < _ := lA.1
    have hIl : (_ : Nat) < I := hI _ (.head _)
    dsimp only at hIl
    have hI1 : (59 : Nat) < I := hI _ (.tail _ (.head _))
    have hnl := h2f_off (o := tabObj ‹_›) hol (Nat.ne_of_lt lA.1) lA.2
    clear lA hI ht N hret
    k_steps
    refine' ForGEnd.intro ?F9 ?N9 ?sub9 (off2b hoff ?ox ?od) ?jj
    case F9 => k_asm
    case N9 => k_asm
    case sub9 => exact List.forall_mem_cons.mpr ⟨.tail _ (.tail _ (.head _)), List.forall_mem_cons.mpr ⟨.tail _ (.tail _ (.tail _ (.head _))), List.forall_mem_cons.mpr ⟨.head _, List.forall_mem_cons.mpr ⟨.tail _ (.head _), fun p hp => .tail _ (.tail _ (.tail _ (.tail _ hp)))⟩⟩⟩⟩
    case ox => exact Nat.ne_of_gt (by omega)
    case od => exact Nat.ne_of_gt (by omega)
    case jj =>
      refine' And.intro ?same (KH.next hv h59 hol ?n1 ?n2 ?n3 ?n4 (h2f_val (by omega)))
      case n1 => exact Nat.ne_of_gt (by omega)
      case n2 => exact Nat.ne_of_gt (by omega)
      case n3 => exact Nat.ne_of_gt (by omega)
      case n4 => exact Nat.ne_of_gt (by omega)
      case same =>
        intro z h1 h2
        have h3 : z ≠ Str.ofString "tv" := by rintro rfl; exact absurd h2 (by decide)
        have h4 : z ≠ Str.ofString "elem_offset" := by rintro rfl; exact absurd h2 (by decide)
        refine (if_neg h3).trans ?_
        refine (if_neg h4).trans ?_
        refine (if_neg h1).trans ?_
        exact if_neg (by rw [h2]; decide)
  case done =>
    rintro u h tk gn nw ⟨vs, cap, objs, rfl, hv, h59, hol, rfl⟩ FF NN
    have hvl : vs.length ≤ 4 := by rw [hv.1]; simp; omega
    k_steps
    exact hret _ _ _ _ _ _ _ _ _ (by with_reducible assumption) (by with_reducible assumption) e1 hv (by k_asm) (news_drop2 (by k_asm)) (by with_reducible assumption)
end

-- piece xcomp
section
open LCg
variable {prog : Program} {w : World} {A : Around} {E : Value → Shared → Prop} {s : Shared} {h₀ : Heap} {L : Addr} {m mg mb : Str → Option Value} {news : List (Addr × Obj)} {p : Program} {loose : List Str} {mean : ExcName → Option Value} {env : Env}
theorem ints_snoc {vs : List Value} {ns : List Int} {n : Int} {t : Tok} (h : IntsAre vs ns) : IntsAre (vs ++ [.int n t]) (ns ++ [n]) := by
  induction h with
  | nil => exact .cons _ _ .nil
  | cons a b _ ih => exact .cons _ _ ih
inductive XcSt (s : Shared) (xs ys : Array UInt8) (z TI TO i1 i2 : Addr) (t u : Tok) (h₀ : Heap) (L : Addr) (m : Str → Option Value) (C D : Addr) (news : List (Addr × Obj)) (k : Nat) (s' : Shared) : Prop
  | mk : ∀ h' tk i vs m', s' = { s with heap := h', toks := tk } → i ≤ min xs.size ys.size → k = min xs.size ys.size + 1 - i → IntsAre vs ((List.range i).map (xorAt xs ys)) →
        (IsZip h' z TI TO .none ∧ IsPair h' TI (.ref i1) (.ref i2) ∧ (∃ a b, IsPair h' TO a b) ∧ KBw.IsBytesIter h' i1 xs t i ∧ KBw.IsBytesIter h' i2 ys u i) → Fr h₀ L h' m → h'.Ns C m' → News h₀ L h' ((D, lst vs) :: news) → XcSt s xs ys z TI TO i1 i2 t u h₀ L m C D news k s'
theorem xcomp_eval {iter : PySem.Expr} {x x₂ : Str} {px px₂ tp p1 p2 p3 : Pos} {tk : Nat} {scope : Scope} {cl : List (Str × Addr)} {pos : Pos} {xs ys : Array UInt8} {t0 u0 : Tok} {Q : Value → Shared → Prop}
    (_F0 : Fr h₀ L s.heap m) (_N0 : News h₀ L s.heap news) (_x0 : m (Str.ofString "first") = some (.bytes xs t0)) (_y0 : m (Str.ofString "last") = some (.bytes ys u0))
    (hh : A.handled = none) (hclos : closureFor scope env = pure cl) (hcell : ∀ y ∈ scope.names, y.2 ≠ .cell) (hkind : scope.kind = .function)
    (hnames : ∀ y ∈ scope.names, y.2 = .local → scope.names.lookup y.1 = some .local) (hx : scope.names.lookup x = some .local) (hx₂ : scope.names.lookup x₂ = some .local) (hxx : x ≠ x₂)
    (hda : (x == ("__debug__" : Str)) = false) (hdb : (x₂ == ("__debug__" : Str)) = false) (hsz : min xs.size ys.size ≤ sizeLine)
    (hiter : wpAny (model prog w) A (eval iter env) (ZipPost h₀ L m news xs ys s) E s)
    (hs : ∀ x, foldedSetIterable iter env x = pure x)
    (hQ : ∀ D vs h tk, Fr h₀ L h m → News h₀ L h ((D, W.listOf vs.toArray vs.length) :: news) → (∀ p ∈ news, p.1 < D) → IntsAre vs (xorInts xs ys) → Q (.ref D) { s with heap := h, toks := tk }) :
    wpAny (model prog w) A (eval (.ListComp (.BinOp (.Name x p1) .BitXor (.Name x₂ p2) p3) [⟨.Tuple [.Name x px, .Name x₂ px₂] tk tp, iter, [], 0⟩] scope pos) env) Q E s := by
  rw [eval_ListComp]
  refine wpAny_comprehension_free (use := none) rfl hs hclos hkind hnames (wpAny_mono hiter (fun xv s₁ h₁ => ?_) fun _ _ e => e)
  obtain ⟨z, t, u, K, hp, tk₀, rfl, rfl, ⟨TI, TO, i1, i2, Dz, hz1, hTI, hTO, hb1, hb2, k1, k2, k3, k4, k5⟩, F, N, hled, hLK, h0K⟩ := h₁
  refine wpAny_pyIter_zip hz1 ?_
  have W := zb_walks (prog := prog) (w := w) hh z TI TO i1 i2 Dz xs ys t u
  have hst0 : IsZip hp z TI TO .none ∧ IsPair hp TI (.ref i1) (.ref i2) ∧ (∃ a b, IsPair hp TO a b) ∧ KBw.IsBytesIter hp i1 xs t 0 ∧ KBw.IsBytesIter hp i2 ys u 0 := ⟨hz1, hTI, hTO, hb1, hb2⟩
  have fpK : ∀ b ∈ [z, TI, TO, i1, i2], K ≤ b ∧ b < hp.objs.size := by
    intro b hb
    obtain ⟨q1, q2, ⟨ta, tb, q3⟩, ⟨o1, q4, _⟩, ⟨o2, q5, _⟩⟩ := hst0
    simp only [List.mem_cons, List.not_mem_nil, or_false] at hb
    rcases hb with rfl | rfl | rfl | rfl | rfl
    · exact ⟨k1, Heap.lt_size q1⟩
    · exact ⟨k2, Heap.lt_size q2⟩
    · exact ⟨k3, Heap.lt_size q3⟩
    · exact ⟨k4, Heap.lt_size q4⟩
    · exact ⟨k5, Heap.lt_size q5⟩
  have wrK : ∀ b ∈ [z, TO, i1, i2], K ≤ b := fun b hb => (fpK b (W.sub b hb)).1
  refine wpAny_newObj_type (wpAny_newFunctionEnv hcell (by intro y hy; simp at hy) (fun h₁ hns₁ hsb₁ => ?_) hkind)
  dsimp only at hns₁ hsb₁ ⊢
  generalize hH2 : hp.push { cls := .type "list", dict := none, data := .seq ([] : List Value).toArray } = H2 at hns₁ hsb₁ ⊢
  have hC : H2.objs.size = hp.objs.size + 1 := by rw [← hH2, Heap.size_push]
  have hDC : hp.objs.size ≠ H2.objs.size := by rw [hC]; exact Nat.ne_of_lt (Nat.lt_succ_self _)
  have below : ∀ b, b < hp.objs.size → b ≠ H2.objs.size ∧ b ≠ hp.objs.size := fun b hb => ⟨by rw [hC]; exact Nat.ne_of_lt (Nat.lt_succ_of_lt hb), Nat.ne_of_lt hb⟩
  have old : ∀ b o, hp.get? b = some o → h₁.get? b = some o := fun b o e => hsb₁.extBut b o (below b (Heap.lt_size e)).1 (Heap.get?_push_of_some _ (hH2 ▸ Heap.get?_push_of_some _ e))
  have hacc : h₁.get? hp.objs.size = some (lst []) := hsb₁.extBut _ _ hDC (Heap.get?_push_of_some _ (hH2 ▸ Heap.get?_push_size _ rfl))
  have hst₁ := W.frame 0 hp h₁ hst0 (fun b _ o e => old b o e)
  have hLlt : L < hp.objs.size := F.ns.lt
  have hKs : K ≤ hp.objs.size := Nat.le_of_lt (Nat.lt_of_le_of_lt k1 (Heap.lt_size hz1))
  have fresh₀ : ∀ a, hp.objs.size ≤ a → h₀.get? a = none := fun a ha => Heap.get?_none_of_le (Nat.le_trans h0K (Nat.le_trans hKs ha))
  have hD₀ : h₀.get? hp.objs.size = none := fresh₀ _ (Nat.le_refl _)
  have hC₀ : h₀.get? H2.objs.size = none := fresh₀ _ (by rw [hC]; exact Nat.le_succ _)
  have hDL : hp.objs.size ≠ L := Ne.symm (below L hLlt).2
  have hCL : H2.objs.size ≠ L := Ne.symm (below L hLlt).1
  have ledlt : ∀ q ∈ news, q.1 < hp.objs.size := fun q hq => Nat.lt_of_lt_of_le (hled q hq) hKs
  have nwr : ∀ b, b < K → b ∉ [z, TO, i1, i2] := fun b hb hm => Nat.lt_irrefl _ (Nat.lt_of_lt_of_le hb (wrK b hm))
  have nfD : ∀ b, hp.objs.size ≤ b → b ∉ [z, TI, TO, i1, i2] := fun b hb hm => Nat.lt_irrefl _ (Nat.lt_of_lt_of_le (fpK b hm).2 hb)
  have nwD : ∀ b, hp.objs.size ≤ b → b ∉ [z, TO, i1, i2] := fun b hb hm => nfD b hb (W.sub b hm)
  have hCge : hp.objs.size ≤ H2.objs.size := by rw [hC]; exact Nat.le_succ _
  have frUp : ∀ h h' : Heap, Fr h₀ L h m → (∀ b o, b ∉ [z, TO, i1, i2] → h.get? b = some o → h'.get? b = some o) → Fr h₀ L h' m := fun h h' F' hk => ⟨F'.ns.at' (fun o e => hk _ o (nwr _ hLK) e), fun b o e => hk b o (nwr b (Nat.lt_of_lt_of_le (Heap.lt_size e) h0K)) (F'.keep b o e), F'.above⟩
  have neUp : ∀ (h h' : Heap) (l : List (Addr × Obj)), News h₀ L h l → (∀ q ∈ l, q.1 ∉ [z, TO, i1, i2]) → (∀ b o, b ∉ [z, TO, i1, i2] → h.get? b = some o → h'.get? b = some o) → News h₀ L h' l := fun h h' l N' ho hk q hq => ⟨hk _ _ (ho q hq) (N' q hq).1, (N' q hq).2⟩
  have ledoff : ∀ (vs : List Value), ∀ q ∈ (hp.objs.size, lst vs) :: news, q.1 ∉ [z, TO, i1, i2] := fun vs q hq => by
    rcases List.mem_cons.mp hq with rfl | hq
    · exact nwD _ (Nat.le_refl _)
    · exact nwr _ (hled q hq)
  have loop : ∀ (R : Result → Shared → Prop) (s₃ : Shared), s₃ = { s with heap := h₁, toks := tk₀ + ([] : List (Str × Value)).length } →
      (∀ m' vs h₂ tk₂, h₂.Ns H2.objs.size m' → Fr h₀ L h₂ m → News h₀ L h₂ ((hp.objs.size, lst vs) :: news) → IntsAre vs (xorInts xs ys) → R (.ok .next) { s with heap := h₂, toks := tk₂ }) →
      codeAny (model prog w) A (.compLoop (.ListComp (.BinOp (.Name x p1) .BitXor (.Name x₂ p2) p3) [⟨.Tuple [.Name x px, .Name x₂ px₂] tk tp, iter, [], 0⟩] scope pos) 0 (.ref z) (.ref hp.objs.size) (compEnvC scope cl H2.objs.size env)) R s₃ := by
    rintro R s₃ rfl hR
    refine LCp.codeAny_compLoop_pair
      (fun k s' => XcSt s xs ys z TI TO i1 i2 t u h₀ L m H2.objs.size hp.objs.size news k s') ?_ (min xs.size ys.size + 1)
      ⟨h₁, _, 0, [], _, rfl, Nat.zero_le _, rfl, .nil, hst₁, F.keeps old, hns₁, fun q hq => ?_⟩
    · rintro k s' ⟨h', tk', i, vs, m', rfl, hi, rfl, hvs, hst', F', hn', N'⟩
      by_cases hlt : i < min xs.size ys.size
      · refine W.item i _ _ _ hlt hst' fun T vals h₂ tk₂ hPt _ hT hmid hk₂ => ?_
        obtain ⟨a, b, u1, u2, ha, hb, rfl⟩ := hPt
        have F₂ := frUp _ _ F' hk₂
        have N₂ := neUp _ _ _ N' (ledoff vs) hk₂
        have hn₂ := hn'.at' (fun o e => hk₂ _ o (nwD _ hCge) e)
        refine W.go _ _ _ _ _ _ _ _ hmid fun h₃ hst₃ hk₃ => ?_
        have F₃ := frUp _ _ F₂ hk₃
        have N₃ := neUp _ _ _ N₂ (ledoff vs) hk₃
        have hn₃ := hn₂.at' (fun o e => hk₃ _ o (nwD _ hCge) e)
        have hT₃ : h₃.IsTuple T #[.int (a.toNat : Int) u1, .int (b.toNat : Int) u2] := let ⟨o, e, r⟩ := hT; ⟨o, hk₃ _ o (W.apart i T _ hmid) e, r⟩
        refine wpAny_assign_Tuple hh hT₃ rfl rfl fun h₄ hx₄ => ?_
        replace hx₄ : Heap.ExtBut h₃.objs.size h₃ h₄ := hx₄
        have old₄ : ∀ b o, h₃.get? b = some o → h₄.get? b = some o := fun b o e => hx₄ b o (Nat.ne_of_lt (Heap.lt_size e)) e
        show wpAny _ _ (do holding [.int (b.toNat : Int) u2] (assign (.Name x px) (compEnvC scope cl H2.objs.size env) (.int (a.toNat : Int) u1)); do holding [] (assign (.Name x₂ px₂) (compEnvC scope cl H2.objs.size env) (.int (b.toNat : Int) u2)); pure ()) _ _ _
        refine wpAny_bind (wpAny_holding (wpAny_assign_Name (wpAny_storeName_local (lookup_relabel_local hx) (hn₃.at' fun o e => old₄ _ o e) (fun h₅ hn₅ hs₅ => ?_) (by simp [compEnvC, relabel, hkind]))))
        refine wpAny_bind (wpAny_holding (wpAny_assign_Name (wpAny_storeName_local (lookup_relabel_local hx₂) hn₅ (fun h₆ hn₆ hs₆ => wpAny_pure ?_) (by simp [compEnvC, relabel, hkind]))))
        have old₆ : ∀ b o, b ≠ H2.objs.size → h₃.get? b = some o → h₆.get? b = some o := fun b o hb e => hs₆.extBut b o hb (hs₅.extBut b o hb (old₄ b o e))
        have F₆ : Fr h₀ L h₆ m := ((F₃.keeps old₄).change hs₅ hCL hC₀).change hs₆ hCL hC₀
        have N₆ : News h₀ L h₆ ((hp.objs.size, lst vs) :: news) := fun q hq => ⟨old₆ _ _ (by
          rcases List.mem_cons.mp hq with rfl | hq
          · exact hDC
          · exact (below _ (ledlt q hq)).1) (N₃ q hq).1, (N₃ q hq).2⟩
        have hst₆ := W.frame _ _ h₆ hst₃ fun b hb o e => old₆ b o (fun q => nfD _ hCge (q ▸ hb)) e
        have hk : (compEnvC scope cl H2.objs.size env).scope.kind = .function := by simp [compEnvC, relabel, hkind]
        refine wpAny_BinOp (wpAny_Name (wpAny_loadName_local hk (lookup_relabel_local hx) hn₆ (show _ = some (Value.int (a.toNat : Int) u1) by simp [hxx]) (wpAny_Name (wpAny_loadName_local hk (lookup_relabel_local hx₂) hn₆ (show _ = some (Value.int (b.toNat : Int) u2) by simp) (xor_int ?_)) hdb)) hda)
        have zD := (N₆ (hp.objs.size, lst vs) (.head _)).1
        have hvl : vs.length = i := by rw [hvs.length]; simp
        refine append_at (hsz := by show vs.toArray.size ≤ sizeLine; rw [List.size_toArray, hvl]; exact Nat.le_trans hi hsz) zD fun h₇ hs₇ hD₇ => ?_
        have ea : xorAt xs ys i = Builtin.bitXor (a.toNat : Int) (b.toNat : Int) := by
          unfold xorAt
          rw [show xs.getD i 0 = a by simp [Array.getD_eq_getD_getElem?, ha], show ys.getD i 0 = b by simp [Array.getD_eq_getD_getElem?, hb]]
        obtain ⟨el, hel, hD₈⟩ : ∃ el, (∃ tt, el = Value.int (Builtin.bitXor (a.toNat : Int) (b.toNat : Int)) tt) ∧ h₇.get? hp.objs.size = some (lst (vs ++ [el])) := ⟨_, ⟨_, rfl⟩, hD₇.trans (congrArg some (lst_snoc vs _))⟩
        obtain ⟨tt, rfl⟩ := hel
        refine ⟨min xs.size ys.size + 1 - (i + 1), by omega, h₇, _, i + 1, vs ++ [.int (Builtin.bitXor (a.toNat : Int) (b.toNat : Int)) tt], _, rfl, hlt, rfl, ?_, W.frame _ _ _ hst₆ fun b hb o e => hs₇.extBut b o (fun q => nfD _ (Nat.le_refl _) (q ▸ hb)) e, F₆.change hs₇ hDL hD₀,
          hn₆.sameBut hs₇ (Ne.symm hDC), fun q hq => ?_⟩
        · rw [List.range_succ, List.map_append, List.map_singleton, ea]
          exact ints_snoc hvs
        · rcases List.mem_cons.mp hq with rfl | hq
          · exact ⟨hD₈, hDL, hD₀⟩
          · exact ⟨hs₇.extBut _ _ (Nat.ne_of_lt (ledlt q hq)) (N₆ q (.tail _ hq)).1, (N₆ q (.tail _ hq)).2⟩
      · obtain rfl : i = min xs.size ys.size := Nat.le_antisymm hi (Nat.not_lt.mp hlt)
        refine W.done _ _ _ hst' fun h₂ tk₂ hk₂ => ?_
        have F₂ := frUp _ _ F' hk₂
        have N₂ := neUp _ _ _ N' (ledoff vs) hk₂
        exact hR m' vs h₂ _ (hn'.at' (fun o e => hk₂ _ o (nwD _ hCge) e)) F₂ N₂ (xorInts_eq xs ys ▸ hvs)
    · rcases List.mem_cons.mp hq with rfl | hq
      · exact ⟨hacc, hDL, hD₀⟩
      · exact ⟨old _ _ (N q hq).1, (N q hq).2⟩
  have fin : ∀ m' vs (h₂ : Heap) (tk₂ : Nat), h₂.Ns H2.objs.size m' → Fr h₀ L h₂ m → News h₀ L h₂ ((hp.objs.size, lst vs) :: news) → IntsAre vs (xorInts xs ys) → ∃ m', h₂.Ns H2.objs.size m' ∧ ∀ h'', Heap.SameBut H2.objs.size h₂ h'' → Q (.ref hp.objs.size) { s with heap := h'', toks := tk₂ } := by
    intro m' vs h₂ tk₂ hn₂ F₂ N₂ hv
    refine ⟨m', hn₂, fun h'' hs'' => hQ _ vs h'' _ (F₂.change hs'' hCL hC₀) (fun q hq => ⟨hs''.extBut _ _ ?_ (N₂ q hq).1, (N₂ q hq).2⟩) ledlt hv⟩
    rcases List.mem_cons.mp hq with rfl | hq
    · exact hDC
    · exact (below _ (ledlt q hq)).1
  exact codeAny_compStart_list (loop _ _ rfl fun m' vs h₂ tk₂ a b c d => fin m' vs h₂ tk₂ a b c d) (W.self 0 _ _ _ hst₁ (loop _ _ rfl fun m' vs h₂ tk₂ a b c d => fin m' vs h₂ tk₂ a b c d))
end

-- piece forg2
section
variable {prog : Program} {w : World} {A : Around} {E : Value → Shared → Prop} {s : Shared} {env : Env} {h₀ : Heap} {x : Str} {body : List Stmt} {Q : Flow → Shared → Prop}
theorem ForG.of2 (n1 n2 : Str) (A1 A2 : Nat → Array UInt8) (K : Nat → List (Addr × Obj) → Array GenState → Prop) {r : Addr} {a b : Int} {t u v : Tok} {n : Nat} {m₀ : Str → Option Value} {news : List (Addr × Obj)} {s1 s2 : Tok}
    (hx1 : n1 ≠ x) (hx2 : n2 ≠ x) (h12 : n2 ≠ n1)
    (hr : IsRange s.heap r a b 1 t u v) (hs : Builtin.Range.small a b 1 = true) (hn : Builtin.Range.rangeSize a b 1 = (n : Int)) (F : Fr h₀ env.locals s.heap m₀) (N : News h₀ env.locals s.heap news) (h0 : K 0 news s.gens)
    (e1 : m₀ n1 = some (.bytes (A1 0) s1)) (e2 : m₀ n2 = some (.bytes (A2 0) s2))
    (turn : ∀ (I : Addr) (i : Nat) (t t1 t2 : Tok) nw h tk gn, i < n → (∀ p ∈ news, p.1 < I) → K i nw gn → (∀ p ∈ nw, p.1 ≠ I) →
      Fr h₀ env.locals h (fun y => if y = x then some (.int (a + (i : Int)) t) else if y = n1 then some (.bytes (A1 i) t1) else if y = n2 then some (.bytes (A2 i) t2) else m₀ y) →
      News h₀ env.locals h ((I, itR (a + ((i + 1 : Nat) : Int)) ((n : Int) - ((i + 1 : Nat) : Int))) :: nw) →
      wpAny (model prog w) A (execs body env) (ForGPost h₀ env.locals I (itR (a + ((i + 1 : Nat) : Int)) ((n : Int) - ((i + 1 : Nat) : Int)))
        (fun m' nw gn => ((∃ t1, m' n1 = some (.bytes (A1 (i + 1)) t1)) ∧ (∃ t2, m' n2 = some (.bytes (A2 (i + 1)) t2)) ∧ ∀ z, z ≠ x → z ≠ n1 → z ≠ n2 → m' z = m₀ z) ∧ K (i + 1) nw gn) { s with heap := h, toks := tk, gens := gn } Q) E { s with heap := h, toks := tk, gens := gn })
    (done : ∀ (u : Str → Option Value) t1 t2 h tk gn nw, K n nw gn → Fr h₀ env.locals h (fun y => if y = x then u y else if y = n1 then some (.bytes (A1 n) t1) else if y = n2 then some (.bytes (A2 n) t2) else m₀ y) → News h₀ env.locals h nw → Q .next { s with heap := h, toks := tk, gens := gn }) :
    ForG prog w A h₀ env x body Q E (.ref r) s := by
  have em : ∀ (m : Str → Option Value) (i : Nat) (t1 t2 : Tok) (g : Str → Option Value), m n1 = some (.bytes (A1 i) t1) → m n2 = some (.bytes (A2 i) t2) → (∀ z, z ≠ x → z ≠ n1 → z ≠ n2 → m z = m₀ z) →
      (fun y => if y = x then g y else m y) = fun y => if y = x then g y else if y = n1 then some (Value.bytes (A1 i) t1) else if y = n2 then some (Value.bytes (A2 i) t2) else m₀ y := by
    intro m i t1 t2 g q1 q2 q3
    funext y
    by_cases hy : y = x
    · rw [if_pos hy, if_pos hy]
    · rw [if_neg hy, if_neg hy]
      by_cases h1 : y = n1
      · rw [if_pos h1, h1, q1]
      · rw [if_neg h1]
        by_cases h2 : y = n2
        · rw [if_pos h2, h2, q2]
        · rw [if_neg h2]; exact q3 y hy h1 h2
  refine ⟨r, a, b, t, u, v, n, m₀, news, fun i m nw gn => ((∃ t1, m n1 = some (.bytes (A1 i) t1)) ∧ (∃ t2, m n2 = some (.bytes (A2 i) t2)) ∧ ∀ z, z ≠ x → z ≠ n1 → z ≠ n2 → m z = m₀ z) ∧ K i nw gn, rfl, hr, hs, hn, F, N, ⟨⟨⟨s1, e1⟩, ⟨s2, e2⟩, fun _ _ _ _ => rfl⟩, h0⟩, ?_, ?_⟩
  · rintro I i t m₁ nw h tk gn hi hI ⟨⟨⟨t1, q1⟩, ⟨t2, q2⟩, q3⟩, hK⟩ hoff F₁ N₁
    have e := em m₁ i t1 t2 (fun _ => some (.int (a + (i : Int)) t)) q1 q2 q3
    rw [e] at F₁
    exact turn I i t t1 t2 nw h tk gn hi hI hK hoff F₁ N₁
  · rintro h tk gn m nw ⟨⟨⟨t1, q1⟩, ⟨t2, q2⟩, q3⟩, hK⟩ F₁ N₁
    refine done m t1 t2 h tk gn nw hK ?_ N₁
    rw [← em m n t1 t2 m q1 q2 q3]
    have : (fun y => if y = x then m y else m y) = m := by funext y; split <;> rfl
    rw [this]; exact F₁
end

-- piece comp
section
variable {prog : Program} {w : World} {A : Around} {E : Value → Shared → Prop} {s : Shared} {h₀ : Heap} {L : Addr} {m : Str → Option Value} {env : Env}
noncomputable def TupAt (ax : Addr) (its : Array Value) (news : List (Addr × Obj)) : Prop := ∃ n, (ax, ({ cls := .type "tuple", data := .seq its n } : Obj)) ∈ news
theorem TupAt.tup {h : Heap} {ax : Addr} {its : Array Value} {news : List (Addr × Obj)} (x : TupAt ax its news) (N : News h₀ L h news) : h.IsTuple ax its := by
  obtain ⟨n, hm⟩ := x
  exact ⟨_, (N _ hm).1, rfl, n, rfl⟩
theorem tuple_st {ax I : Addr} {its : Array Value} : ∀ i (h h' : Heap) (o : Obj) (nw : List (Addr × Obj)), (h.IsTupleIter I ax i ∧ h.IsTuple ax its) → h.get? I = some o → h'.get? I = some o → (∀ b o, h₀.get? b = some o → h'.get? b = some o) → News h₀ L h' nw → TupAt ax its nw → (h'.IsTupleIter I ax i ∧ h'.IsTuple ax its) :=
  fun i h h' o nw st e e' k N S => ⟨by obtain ⟨o', q, r⟩ := st.1; rw [e] at q; cases q; exact ⟨o, e', r⟩, S.tup N⟩
noncomputable def CompTup (prog : Program) (w : World) (A : Around) (h₀ : Heap) (L : Addr) (m : Str → Option Value) (env : Env) (elt : PySem.Expr) (x : Str) (scope : Scope) (cl : List (Str × Addr)) (Fin : Shared → List Value → List (Addr × Obj) → Prop) (xv : Value) (s₁ : Shared) : Prop :=
  ∃ ax its news, xv = .ref ax ∧ A.handled = none ∧ Fr h₀ L s₁.heap m ∧ News h₀ L s₁.heap news ∧ TupAt ax its news ∧ its.size ≤ sizeLine ∧
    ∀ s₂ : Shared, (∃ h, s₂ = { s₁ with heap := h }) → LCg.CompRest prog w A h₀ L m env elt x scope cl s₂ (TupAt ax its) (fun i v => its[i]? = some v) (Fin s₂) its.size 0 [] news
theorem ListComp_Tup {elt iter : PySem.Expr} {x : Str} {px : Pos} {scope : Scope} {cl : List (Str × Addr)} {pos : Pos} {Q : Value → Shared → Prop} (_F₀ : Fr h₀ L s.heap m)
    (hclos : closureFor scope env = pure cl) (hcell : ∀ y ∈ scope.names, y.2 ≠ .cell) (hkind : scope.kind = .function)
    (hnames : ∀ y ∈ scope.names, y.2 = .local → scope.names.lookup y.1 = some .local) (hx : scope.names.lookup x = some .local)
    (h : wpAny (model prog w) A (eval iter env) (CompTup prog w A h₀ L m env elt x scope cl (fun s₂ => LCg.FinE h₀ L m s₂ Q)) E s)
    (hs : ∀ x, foldedSetIterable iter env x = pure x := by intro _; rfl) :
    wpAny (model prog w) A (eval (.ListComp elt [⟨.Name x px, iter, [], 0⟩] scope pos) env) Q E s := by
  rw [eval_ListComp]
  refine wpAny_comprehension_free (use := none) rfl hs hclos hkind hnames (wpAny_mono h (fun xv s₁ h₁ => ?_) fun _ _ e => e)
  obtain ⟨ax, its, news, rfl, hh, F, N, S, hsz, R⟩ := h₁
  have hl := S.tup N
  have hlt : ax < s₁.heap.objs.size := by obtain ⟨_, e, _⟩ := hl; exact Heap.lt_size e
  refine wpAny_pyIter_tuple hl ?_
  have up : ∀ b o, s₁.heap.get? b = some o → (s₁.heap.push { cls := .type "tuple_iterator", data := .fields #[.ref ax, .int 0 0] }).get? b = some o := fun b o e => Heap.get?_push_of_some _ e
  refine LCg.block_U (Walks.tuple hh s₁.heap.objs.size ax (Nat.ne_of_lt hlt) its) hsz (fun i h st => by obtain ⟨o, e, _⟩ := st.1; exact ⟨o, e⟩) tuple_st hcell hkind hx ⟨⟨_, Heap.get?_push_size _ rfl, rfl, rfl⟩, hl.push _⟩ (fun b hb => ?_)
    (F.keeps up) (N.grown up) (Nat.ne_of_lt F.ns.lt) (next_is_new F) (fun p hp => Nat.ne_of_lt (Heap.lt_size (N p hp).1)) S (R _ ⟨_, rfl⟩) ?_
  · show b < (s₁.heap.push _).objs.size
    rw [Heap.size_push]
    rcases List.mem_cons.mp hb with rfl | hb
    · exact Nat.lt_succ_self _
    · rw [List.mem_singleton.mp hb]; exact Nat.lt_succ_of_lt hlt
  · intro D C h tk m' ys news' F' N' o1 hn hC₀ hD₀ hCL hDL hCD offC fin
    refine ⟨m', hn, fun h'' hs'' => fin D h'' tk (F'.change hs'' hCL hC₀) (fun p hp => ?_) o1⟩
    refine ⟨hs''.extBut _ _ ?_ (N' p hp).1, (N' p hp).2⟩
    rcases List.mem_cons.mp hp with rfl | hp
    · exact Ne.symm hCD
    · exact offC p hp
noncomputable def TurnEnd (h₀ : Heap) (L : Addr) (m : Str → Option Value) (s₁ : Shared) (I : Addr) (oI : Obj) (C : Addr) (oC : Obj) (D : Addr) (oD : Obj) (S : List (Addr × Obj) → Prop) (J : Value → List (Addr × Obj) → Prop) (y : Value) (s₂ : Shared) : Prop :=
  LCg.CompEnd h₀ L m s₁ I oI C oC D oD S J y s₂
theorem TurnEnd.intro {I C D : Addr} {s₁ : Shared} {oI oC oD : Obj} {S : List (Addr × Obj) → Prop} {J : Value → List (Addr × Obj) → Prop} {y : Value} {h' : Heap} {tk : Nat} {all nw : List (Addr × Obj)}
    (F : Fr h₀ L h' m) (N : News h₀ L h' all) (sub : ∀ p ∈ (I, oI) :: (C, oC) :: (D, oD) :: nw, p ∈ all) (off : ∀ p ∈ nw, p.1 ≠ I ∧ p.1 ≠ C ∧ p.1 ≠ D) (hS : S nw) (r : J y nw) :
    TurnEnd h₀ L m s₁ I oI C oC D oD S J y { s₁ with heap := h', toks := tk } := LCg.CompEnd.intro F N nw sub (LCg.Off3.of off) hS r
noncomputable def CompTurn (prog : Program) (w : World) (A : Around) (h₀ : Heap) (L : Addr) (m : Str → Option Value) (env : Env) (elt : PySem.Expr) (x : Str) (scope : Scope) (cl : List (Str × Addr)) (s : Shared) (S : List (Addr × Obj) → Prop) (P : Nat → Value → Prop) (J : Nat → List Value → List (Addr × Obj) → Prop) (n : Nat) : Prop :=
  ∀ (I C D : Addr) (oI oC : Obj) (i : Nat) (v : Value) (m₂ : Str → Option Value) (ys : List Value) (nw : List (Addr × Obj)) (h : Heap) (tk : Nat) (E' : Value → Shared → Prop), i < n → P i v → J i ys nw → ys.length = i → LCg.NsObj oC m₂ → m₂ x = some v →
    (∀ p ∈ nw, p.1 ≠ I ∧ p.1 ≠ C ∧ p.1 ≠ D) → ((@Ne Nat I C) ∧ (@Ne Nat I D) ∧ (@Ne Nat C D)) → Fr h₀ L h m → News h₀ L h ((I, oI) :: (C, oC) :: (D, W.listOf ys.toArray i) :: nw) →
    wpAny (model prog w) A (eval elt (compEnvC scope cl C env)) (TurnEnd h₀ L m { s with heap := h, toks := tk } I oI C oC D (W.listOf ys.toArray i) S (fun y nw' => J (i + 1) (ys ++ [y]) nw')) E' { s with heap := h, toks := tk }
theorem compRest_of {elt : PySem.Expr} {x : Str} {scope : Scope} {cl : List (Str × Addr)} {S : List (Addr × Obj) → Prop} {P : Nat → Value → Prop} {Fin : List Value → List (Addr × Obj) → Prop} {n : Nat} (J : Nat → List Value → List (Addr × Obj) → Prop)
    (turn : CompTurn prog w A h₀ L m env elt x scope cl s S P J n) (fin : ∀ ys nw, ys.length = n → J n ys nw → Fin ys nw) :
    ∀ (k i : Nat) (ys : List Value) (nw : List (Addr × Obj)), k + i = n → ys.length = i → J i ys nw → LCg.CompRest prog w A h₀ L m env elt x scope cl s S P Fin k i ys nw
  | 0, i, ys, nw, hk, hl, hJ => by
    obtain rfl : i = n := by omega
    exact LCg.CompRest.zero (fin ys nw hl hJ)
  | k + 1, i, ys, nw, hk, hl, hJ => by
    refine LCg.CompRest.succ fun v I oI C oC D m₂ h tk E' hP hC hx F N off ne => ?_
    have e : LCg.lst ys = W.listOf ys.toArray i := by rw [← hl]
    rw [e] at N ⊢
    refine wpAny_mono (turn I C D oI oC i v m₂ ys nw h tk E' (by omega) hP hJ hl hC hx off.mem ne F N) (fun y s₂ q => ?_) fun _ _ e => e
    obtain ⟨h', tk', nw', e, F', N', off', S', j⟩ := q
    exact ⟨h', tk', nw', e, F', N', off', S', compRest_of J turn fin k (i + 1) (ys ++ [y]) nw' (by omega) (by simp [hl]) j⟩
theorem CompTup.of {elt : PySem.Expr} {x : Str} {scope : Scope} {cl : List (Str × Addr)} {Q : Value → Shared → Prop} (J : Nat → List Value → List (Addr × Obj) → Prop) {ax : Addr} {its : Array Value} {k : Nat} {news : List (Addr × Obj)} {s₁ : Shared}
    (hh : A.handled = none) (F : Fr h₀ L s₁.heap m) (N : News h₀ L s₁.heap news) (hm : (ax, ({ cls := .type "tuple", data := .seq its k } : Obj)) ∈ news) (hsz : its.size ≤ sizeLine) (h0 : J 0 [] news)
    (turn : CompTurn prog w A h₀ L m env elt x scope cl s₁ (TupAt ax its) (fun i v => its[i]? = some v) J its.size)
    (done : ∀ D ys nw h tk, ys.length = its.size → J its.size ys nw → (∀ p ∈ nw, p.1 ≠ D) → Fr h₀ L h m → News h₀ L h ((D, W.listOf ys.toArray its.size) :: nw) → Q (.ref D) { s₁ with heap := h, toks := tk }) :
    CompTup prog w A h₀ L m env elt x scope cl (fun s₂ => LCg.FinE h₀ L m s₂ Q) (.ref ax) s₁ := by
  refine ⟨ax, its, news, rfl, hh, F, N, ⟨k, hm⟩, hsz, ?_⟩
  rintro s₂ ⟨g, rfl⟩
  refine compRest_of (s := { s₁ with heap := g }) J turn ?fin _ 0 [] news rfl rfl h0
  intro ys nw hl hJ D h tk F' N' o1
  have e : LCg.lst ys = W.listOf ys.toArray its.size := by rw [← hl]
  rw [e] at N'
  refine done D ys nw h tk hl hJ ?_ F' N'
  clear done hJ N'
  induction nw with
  | nil => exact fun _ h => nomatch h
  | cons a r ih => exact List.forall_mem_cons.mpr ⟨o1.1, ih o1.2⟩
theorem off1_all {D : Addr} : ∀ {nw : List (Addr × Obj)}, LCg.Off1 D nw → ∀ p ∈ nw, p.1 ≠ D
  | [], _ => fun _ h => nomatch h
  | _ :: _, o => List.forall_mem_cons.mpr ⟨o.1, off1_all o.2⟩
noncomputable def CompSrcG (prog : Program) (w : World) (A : Around) (h₀ : Heap) (L : Addr) (m : Str → Option Value) (env : Env) (elt : PySem.Expr) (x : Str) (scope : Scope) (cl : List (Str × Addr)) (Fin : Shared → List Value → List (Addr × Obj) → Prop) (xv : Value) (s₁ : Shared) : Prop :=
  LCg.CompSrc prog w A h₀ L m env elt x scope cl Fin xv s₁
theorem ListComp_G {elt iter : PySem.Expr} {x : Str} {px : Pos} {scope : Scope} {cl : List (Str × Addr)} {pos : Pos} {Q : Value → Shared → Prop} (F₀ : Fr h₀ L s.heap m)
    (hclos : closureFor scope env = pure cl) (hcell : ∀ y ∈ scope.names, y.2 ≠ .cell) (hkind : scope.kind = .function)
    (hnames : ∀ y ∈ scope.names, y.2 = .local → scope.names.lookup y.1 = some .local) (hx : scope.names.lookup x = some .local)
    (h : wpAny (model prog w) A (eval iter env) (CompSrcG prog w A h₀ L m env elt x scope cl (fun s₂ => LCg.FinE h₀ L m s₂ Q)) E s)
    (hs : ∀ x, foldedSetIterable iter env x = pure x := by intro _; rfl) :
    wpAny (model prog w) A (eval (.ListComp elt [⟨.Name x px, iter, [], 0⟩] scope pos) env) Q E s := LCg.ListComp_U F₀ hclos hcell hkind hnames hx h hs
theorem Assign_ListComp_G {elt iter : PySem.Expr} {x y : Str} {px py : Pos} {scope : Scope} {cl : List (Str × Addr)} {pos spos : Pos} {Q : Flow → Shared → Prop} (F₀ : Fr h₀ L s.heap m) (hLe : env.locals = L)
    (hsw : swapsWith (.ListComp elt [⟨.Name x px, iter, [], 0⟩] scope pos) (some (.Name y py)) spos.line env = pure true)
    (hclos : closureFor scope env = pure cl) (hcell : ∀ z ∈ scope.names, z.2 ≠ .cell) (hkind : scope.kind = .function)
    (hnames : ∀ z ∈ scope.names, z.2 = .local → scope.names.lookup z.1 = some .local) (hx : scope.names.lookup x = some .local)
    (hy : env.kindOf y = some .local) (hp : (env.scope.kind == .class || (env.scope.kind == .module && env.locals != env.globals)) = false)
    (h : wpAny (model prog w) A (eval iter env) (CompSrcG prog w A h₀ L m env elt x scope cl (fun s₂ => LCg.FinA h₀ L m s₂ y Q)) E s)
    (hs : ∀ x, foldedSetIterable iter env x = pure x := by intro _; rfl) :
    wpAny (model prog w) A (exec (.Assign [.Name y py] (.ListComp elt [⟨.Name x px, iter, [], 0⟩] scope pos) spos) env) Q E s := LCg.Assign_ListComp_U F₀ hLe hsw hclos hcell hkind hnames hx hy hp h hs
theorem CompSrcG.rangeE {elt : PySem.Expr} {x : Str} {scope : Scope} {cl : List (Str × Addr)} {Q : Value → Shared → Prop} (J : Nat → List Value → List (Addr × Obj) → Prop) {r : Addr} {a b : Int} {t u v : Tok} {n : Nat} {news : List (Addr × Obj)} {s₁ : Shared}
    (hh : A.handled = none) (F : Fr h₀ L s₁.heap m) (N : News h₀ L s₁.heap news) (hr : IsRange s₁.heap r a b 1 t u v) (hsm : Builtin.Range.small a b 1 = true) (hn : Builtin.Range.rangeSize a b 1 = ((n : Nat) : Int)) (hsz : n ≤ sizeLine) (h0 : J 0 [] news)
    (turn : CompTurn prog w A h₀ L m env elt x scope cl s₁ (fun _ => True) (fun i v => ∃ t, v = .int (a + (i : Int)) t) J n)
    (done : ∀ D ys nw h tk, ys.length = n → J n ys nw → (∀ p ∈ nw, p.1 ≠ D) → Fr h₀ L h m → News h₀ L h ((D, W.listOf ys.toArray n) :: nw) → Q (.ref D) { s₁ with heap := h, toks := tk }) :
    CompSrcG prog w A h₀ L m env elt x scope cl (fun s₂ => LCg.FinE h₀ L m s₂ Q) (.ref r) s₁ := by
  refine LCg.CompSrc.range hh F N hr hsm hn hsz fun g => ?_
  refine compRest_of (s := { s₁ with heap := g }) J turn ?fin _ 0 [] news rfl rfl h0
  intro ys nw hl hJ D h tk F' N' o1
  have e : LCg.lst ys = W.listOf ys.toArray n := by rw [← hl]
  rw [e] at N'
  exact done D ys nw h tk hl hJ (off1_all o1) F' N'
theorem CompSrcG.rangeA {elt : PySem.Expr} {x y : Str} {scope : Scope} {cl : List (Str × Addr)} {Q : Flow → Shared → Prop} (J : Nat → List Value → List (Addr × Obj) → Prop) {r : Addr} {a b : Int} {t u v : Tok} {n : Nat} {news : List (Addr × Obj)} {s₁ : Shared}
    (hh : A.handled = none) (F : Fr h₀ L s₁.heap m) (N : News h₀ L s₁.heap news) (hr : IsRange s₁.heap r a b 1 t u v) (hsm : Builtin.Range.small a b 1 = true) (hn : Builtin.Range.rangeSize a b 1 = ((n : Nat) : Int)) (hsz : n ≤ sizeLine) (h0 : J 0 [] news)
    (turn : CompTurn prog w A h₀ L m env elt x scope cl s₁ (fun _ => True) (fun i v => ∃ t, v = .int (a + (i : Int)) t) J n)
    (done : ∀ D ys nw h tk, ys.length = n → J n ys nw → (∀ p ∈ nw, p.1 ≠ D) → Fr h₀ L h (fun z => if z = y then some (.ref D) else m z) → News h₀ L h ((D, W.listOf ys.toArray n) :: nw) → Q .next { s₁ with heap := h, toks := tk }) :
    CompSrcG prog w A h₀ L m env elt x scope cl (fun s₂ => LCg.FinA h₀ L m s₂ y Q) (.ref r) s₁ := by
  refine LCg.CompSrc.range hh F N hr hsm hn hsz fun g => ?_
  refine compRest_of (s := { s₁ with heap := g }) J turn ?fin _ 0 [] news rfl rfl h0
  intro ys nw hl hJ D h tk F' N' o1
  have e : LCg.lst ys = W.listOf ys.toArray n := by rw [← hl]
  rw [e] at N'
  exact done D ys nw h tk hl hJ (off1_all o1) F' N'
end

-- piece flaw
structure Hid (P : Prop) : Prop where
  out : P
noncomputable def dvA (due : Array UInt8) (p : Int) (i : Nat) : Int := (KFB.value (KBw.bInts (KBy.picked due (some (64 * (i : Int))) (some (64 * (i : Int) + 64))))) % p
noncomputable def dueA (dig : Int) (b0 dp : Array UInt8) (i : Nat) : Array UInt8 := ((List.range i).map (chainA dig b0 dp)).foldl (· ++ ·) #[]
theorem pick_pick (X : Array UInt8) (S i : Nat) (h : 64 * i + 64 ≤ S) : KBy.picked (KBy.picked X none (some (S : Int))) (some (64 * (i : Int))) (some (64 * (i : Int) + 64)) = KBy.picked X (some (64 * (i : Int))) (some (64 * (i : Int) + 64)) := by
  have e1 : (64 * (i : Int)) = ((64 * i : Nat) : Int) := by omega
  have e2 : ((64 * i : Nat) : Int) + 64 = ((64 * i + 64 : Nat) : Int) := by omega
  rw [e1, e2]
  simp only [KBc.picked_eq, Option.elim, clipAt_nat, List.size_toArray, List.length_take, List.length_drop, Array.length_toList, Nat.sub_zero, List.drop_zero]
  congr 1
  apply List.ext_getElem?
  intro j
  simp only [List.getElem?_take, List.getElem?_drop]
  generalize X.size = n
  by_cases hn : S ≤ n
  · rw [Nat.min_eq_left hn, Nat.min_eq_left hn, Nat.min_eq_left (show 64 * i + 64 ≤ S by omega), Nat.min_eq_left (show 64 * i ≤ S by omega), Nat.min_eq_left (show 64 * i + 64 ≤ n by omega), Nat.min_eq_left (show 64 * i ≤ n by omega)]
    by_cases hj : j < 64 * i + 64 - 64 * i
    · rw [if_pos hj, if_pos hj, if_pos (by omega)]
    · rw [if_neg hj, if_neg hj]
  · rw [Nat.min_eq_right (show n ≤ S by omega), Nat.min_self]
    by_cases hj : j < min (64 * i + 64) n - min (64 * i) n
    · rw [if_pos hj, if_pos hj, if_pos (by omega)]
    · rw [if_neg hj, if_neg hj]
theorem ceil_eq {c d : Int} (h0 : 1 ≤ c) (hd : 48 ≤ d) : ((-((-(c * 1 * 64)).fdiv d) + 1 - 2).toNat + 1) = ((64 * c + d - 1).fdiv d - 0).toNat := by
  rw [Int.fdiv_eq_ediv_of_nonneg _ (by omega), Int.fdiv_eq_ediv_of_nonneg _ (by omega)]
  have h1 : c * 1 * 64 = 64 * c := by omega
  rw [h1]
  generalize hS : 64 * c = S
  have hS0 : 64 ≤ S := by omega
  have a1 := Int.emod_add_mul_ediv (-S) d
  have a2 := Int.emod_add_mul_ediv (S + d - 1) d
  have b1 := Int.emod_nonneg (-S) (show d ≠ 0 by omega)
  have b2 := Int.emod_lt_of_pos (-S) (show 0 < d by omega)
  have b3 := Int.emod_nonneg (S + d - 1) (show d ≠ 0 by omega)
  have b4 := Int.emod_lt_of_pos (S + d - 1) (show 0 < d by omega)
  generalize (-S) / d = x at *
  generalize (S + d - 1) / d = y at *
  generalize (-S) % d = r at *
  generalize (S + d - 1) % d = q at *
  have key : x + y = 0 := by
    have e : d * (x + y) = d - 1 - r - q := by rw [Int.mul_add]; omega
    have u1 : x + y < 1 := by
      apply Int.lt_of_mul_lt_mul_left (a := d) _ (by omega)
      omega
    have u2 : -1 < x + y := by
      apply Int.lt_of_mul_lt_mul_left (a := d) _ (by omega)
      omega
    omega
  have hy : 1 ≤ y := by
    have : 0 < y := by
      apply Int.lt_of_mul_lt_mul_left (a := d) _ (by omega)
      omega
    omega
  omega
theorem byte3 (a b : Int) : byteArr [a, b, 0] = byteArr [a, b] ++ #[0] := by
  unfold byteArr
  simp
theorem fields_law {dig cn p : Int} {b0 b1 U due z msg mk l : Array UInt8} {P : Params} {objs : List (Addr × Obj)} {vs : List Value} {f : Nat → Int}
    (eU : Hid (U = uniA dig (cn * 1 * 64) (-((-(cn * 1 * 64)).fdiv dig)) b1 (mk ++ l))) (eb : Hid (b1 = hashA dig (z ++ msg ++ byteArr [cn * 1 * 64 / 256, cn * 1 * 64 % 256] ++ #[0] ++ (mk ++ l))))
    (e0 : Hid (b0 = hashA dig (z ++ msg ++ byteArr [(64 * cn).fdiv 256, (64 * cn).fmod 256, 0] ++ mk ++ l))) (hdue : Hid (due = dueA dig b0 (mk ++ l) ((64 * cn + dig - 1).fdiv dig - 0).toNat))
    (h0 : 0 ≤ cn) (hd : 48 ≤ dig) (FA : FqAll P p objs vs ((List.range (cn - 0).toNat).map f)) : (List.range vs.toArray.size).map (hvA U p) = (List.range (cn - 0).toNat).map (dvA due p) := by
  have e1 : vs.toArray.size = (cn - 0).toNat := by rw [List.size_toArray, FA.1]; simp
  rw [e1]
  have hb : b0 = b1 := by
    rw [e0.out, eb.out, byte3, Int.fdiv_eq_ediv_of_nonneg _ (by decide), Int.fmod_eq_emod_of_nonneg _ (by decide), show cn * 1 * 64 = 64 * cn by omega]
    simp only [Array.append_assoc]
  apply List.map_congr_left
  intro i hi
  have hi : i < (cn - 0).toNat := List.mem_range.mp hi
  unfold hvA dvA
  rw [eU.out, hdue.out, hb]
  unfold uniA dueA
  rw [ceil_eq (by omega) hd]
  have hc : cn * 1 * 64 = (((cn * 1 * 64).toNat : Nat) : Int) := by omega
  rw [hc, pick_pick _ _ _ (by omega)]

-- piece pull
inductive Pull (a : Addr) (o : Obj) : List (Addr × Obj) → List (Addr × Obj) → Prop
  | here {r : List (Addr × Obj)} : Pull a o ((a, o) :: r) r
  | there {x : Addr × Obj} {r r' : List (Addr × Obj)} (h : Pull a o r r') : Pull a o (x :: r) (x :: r')
theorem Pull.mem {a : Addr} {o : Obj} {l r : List (Addr × Obj)} (P : Pull a o l r) : ∀ p ∈ (a, o) :: r, p ∈ l := by
  induction P with
  | here => exact fun _ h => h
  | there h ih =>
    intro p hp
    rcases List.mem_cons.mp hp with rfl | hp
    · exact .tail _ (ih _ (.head _))
    · rcases List.mem_cons.mp hp with rfl | hp
      · exact .head _
      · exact .tail _ (ih _ (.tail _ hp))
theorem Pull.news {h₀ h : Heap} {L a : Addr} {o : Obj} {l r : List (Addr × Obj)} (N : News h₀ L h l) (P : Pull a o l r) : News h₀ L h ((a, o) :: r) := fun p hp => N p (P.mem p hp)

-- piece fields
noncomputable def lastA (dig : Int) (b0 dp : Array UInt8) : Nat → Array UInt8
  | 0 => #[]
  | i + 1 => chainA dig b0 dp i
theorem dueA_le (dig : Int) (b0 dp : Array UInt8) (i : Nat) : (dueA dig b0 dp i).size ≤ 77 * i := by
  unfold dueA
  rw [jl_size]
  exact chain_sum _ _ _ _
theorem dueA_succ (dig : Int) (b0 dp : Array UInt8) (i : Nat) : dueA dig b0 dp (i + 1) = dueA dig b0 dp i ++ chainA dig b0 dp i := by
  unfold dueA
  rw [List.range_succ, List.map_append, List.map_singleton, List.foldl_append]
  rfl
theorem lastA_le (dig : Int) (b0 dp : Array UInt8) : ∀ i, (lastA dig b0 dp i).size ≤ 77
  | 0 => Nat.zero_le _
  | _ + 1 => chainA_le _ _ _ _
inductive KF (a1 a2 a3 a4 : Addr × Obj) (c2 : Addr) (post : List (Addr × Obj)) (dig : Int) (b0 dp : Array UInt8) (g0 : Array GenState) (i : Nat) (nw : List (Addr × Obj)) (gn : Array GenState) : Prop
  | mk : ∀ o t, (nw = a1 :: a2 :: a3 :: a4 :: (c2, o) :: post) → (o.data = .cell (some (.bytes (dueA dig b0 dp i) t))) → (gn = g0) → KF a1 a2 a3 a4 c2 post dig b0 dp g0 i nw gn
theorem KF.zero {a1 a2 a3 a4 : Addr × Obj} {c2 : Addr} {post : List (Addr × Obj)} {dig : Int} {b0 x1 x2 x3 mk l1 : Array UInt8} {g0 : Array GenState} {o : Obj} {t : Tok} (_e0 : b0 = hashA dig (x1 ++ x2 ++ x3 ++ mk ++ l1)) (d : o.data = .cell (some (.bytes #[] t))) :
    KF a1 a2 a3 a4 c2 post dig b0 (mk ++ l1) g0 0 (a1 :: a2 :: a3 :: a4 :: (c2, o) :: post) g0 := ⟨o, t, rfl, d, rfl⟩
theorem KF.next {a1 a2 a3 a4 : Addr × Obj} {c2 : Addr} {post : List (Addr × Obj)} {dig : Int} {b0 dp b : Array UInt8} {g0 : Array GenState} {o : Obj} {t : Tok} {i : Nat} (e : b = chainA dig b0 dp i) (d : o.data = .cell (some (.bytes (dueA dig b0 dp i ++ b) t))) :
    KF a1 a2 a3 a4 c2 post dig b0 dp g0 (i + 1) (a1 :: a2 :: a3 :: a4 :: (c2, o) :: post) g0 := ⟨o, t, rfl, by rw [dueA_succ, ← e]; exact d, rfl⟩
theorem last0 {dig : Int} {b0 x1 x2 x3 mk l1 : Array UInt8} {t : Tok} (_e0 : b0 = hashA dig (x1 ++ x2 ++ x3 ++ mk ++ l1)) : some (Value.bytes #[] t) = some (Value.bytes (lastA dig b0 (mk ++ l1) 0) t) := rfl
theorem last_next {dig : Int} {b b0 dp : Array UInt8} {i : Nat} {t : Tok} (e : b = chainA dig b0 dp i) : ∃ t1, some (Value.bytes b t) = some (Value.bytes (lastA dig b0 dp (i + 1)) t1) := ⟨t, by rw [e]; rfl⟩
theorem KF.sizes {dig : Int} {b0 x1 x2 x3 mk l1 : Array UInt8} {i : Nat} (_e0 : b0 = hashA dig (x1 ++ x2 ++ x3 ++ mk ++ l1)) (hi : i < 4) : (lastA dig b0 (mk ++ l1) i).size ≤ 77 ∧ (dueA dig b0 (mk ++ l1) i).size ≤ 308 :=
  ⟨lastA_le _ _ _ i, Nat.le_trans (dueA_le _ _ _ i) (show 77 * i ≤ 308 by omega)⟩
theorem off_cell {a1 a2 a3 a4 : Addr × Obj} {c2 I : Addr} {o o' : Obj} {post : List (Addr × Obj)} (h : ∀ p ∈ a1 :: a2 :: a3 :: a4 :: (c2, o) :: post, p.1 ≠ I) : ∀ p ∈ a1 :: a2 :: a3 :: a4 :: (c2, o') :: post, p.1 ≠ I := by
  intro p hp
  rcases List.mem_cons.mp hp with rfl | hp
  · exact h _ (.head _)
  · rcases List.mem_cons.mp hp with rfl | hp
    · exact h _ (.tail _ (.head _))
    · rcases List.mem_cons.mp hp with rfl | hp
      · exact h _ (.tail _ (.tail _ (.head _)))
      · rcases List.mem_cons.mp hp with rfl | hp
        · exact h _ (.tail _ (.tail _ (.tail _ (.head _))))
        · rcases List.mem_cons.mp hp with rfl | hp
          · exact h (c2, o) (.tail _ (.tail _ (.tail _ (.tail _ (.head _)))))
          · exact h p (.tail _ (.tail _ (.tail _ (.tail _ (.tail _ hp)))))
theorem dgt_n {c d : Int} (h0 : 0 ≤ c) (h1 : c < 4) (hd : 48 ≤ d) (hd2 : d ≤ 71) : 0 ≤ (64 * c + d - 1).fdiv d ∧ (64 * c + d - 1).fdiv d ≤ 4 := by
  rw [Int.fdiv_eq_ediv_of_nonneg _ (by omega)]
  constructor
  · exact Int.ediv_nonneg (by omega) (by omega)
  · have : (64 * c + d - 1) / d < 5 := Int.ediv_lt_of_lt_mul (by omega) (by omega)
    omega
theorem dgt_77 {c d : Int} (h0 : 0 ≤ c) (h1 : c < 4) (hd : 48 ≤ d) (hd2 : d ≤ 71) : 77 * ((64 * c + d - 1).fdiv d - 0).toNat ≤ 308 := by
  have hz := dgt_n h0 h1 hd hd2
  omega
theorem dgt_small {c d : Int} (h0 : 0 ≤ c) (h1 : c < 4) (hd : 48 ≤ d) (hd2 : d ≤ 71) : Builtin.Range.small 0 ((64 * c + d - 1).fdiv d) 1 = true := by
  have hz := dgt_n h0 h1 hd hd2
  exact small_one (by omega) (by omega) (by omega) (by omega)
theorem dgt_lt {c d : Int} {i : Nat} (hi : i < ((64 * c + d - 1).fdiv d - 0).toNat) (h0 : 0 ≤ c) (h1 : c < 4) (hd : 48 ≤ d) (hd2 : d ≤ 71) : i < 4 := by
  have hz := dgt_n h0 h1 hd hd2
  omega
theorem chain_first {dig : Int} {b b0 mk : Array UInt8} {n : Int} {i : Nat} (h : b = hashA dig (b0 ++ byteArr [0 + (i : Int) + 1] ++ mk ++ byteArr [n])) (hi : ¬ 0 < 0 + (i : Int)) : b = chainA dig b0 (mk ++ byteArr [n]) i := by
  obtain rfl : i = 0 := by omega
  rw [h]
  show _ = hashA dig (b0 ++ #[1] ++ (mk ++ byteArr [n]))
  rw [← Array.append_assoc]
  rfl
theorem chain_later {dig : Int} {b b0 mk : Array UInt8} {n : Int} {i : Nat} (h : b = hashA dig (byteArr (xorInts b0 (lastA dig b0 (mk ++ byteArr [n]) i)) ++ byteArr [0 + (i : Int) + 1] ++ mk ++ byteArr [n])) (hi : 0 < 0 + (i : Int)) : b = chainA dig b0 (mk ++ byteArr [n]) i := by
  obtain ⟨j, rfl⟩ : ∃ j, i = j + 1 := ⟨i - 1, by omega⟩
  rw [h]
  show _ = hashA dig (xorA b0 (chainA dig b0 (mk ++ byteArr [n]) j) ++ byteArr [2 + (j : Int)] ++ (mk ++ byteArr [n]))
  rw [← Array.append_assoc, show (0 + ((j + 1 : Nat) : Int) + 1) = 2 + (j : Int) by omega]
  rfl
theorem lay68 : True := by
  k_with "m:call type:zip" => ((with_reducible show wpAny _ _ (call (Value.type "zip") [Value.bytes _ _, Value.bytes _ _]) _ _ _); (k_dflt (refine' zipb_K ?zFq7 ?zNq7 ?_; (case zFq7 => k_asm); (case zNq7 => k_asm); k_whole)); intro h'q z'q F'q N'q ZB'q lK'q ledK'q h0K'q; exact ⟨z'q, _, _, _, _, _, rfl, rfl, ZB'q, F'q, N'q, ledK'q, lK'q, h0K'q⟩)
  k_with "m:eval ListComp" => ((with_reducible show wpAny _ _ (eval (PySem.Expr.ListComp (PySem.Expr.BinOp _ Operator.BitXor _ _) _ _ _) _) _ _ _); k_dflt (refine' xcomp_eval ?xFq7 ?xNq7 ?xxq7 ?xyq7 ?xhq7 ?xlq7 ?xeq7 ?xkq7 ?xmq7 ?xaq7 ?xbq7 ?xabq7 ?xdaq7 ?xdbq7 ?xzq7 ?_ ?xsq7 ?xQq7; (case xFq7 => k_asm); (case xNq7 => k_asm); (case xxq7 => exact rfl); (case xyq7 => exact rfl); (case xhq7 => exact rfl); (case xlq7 => exact rfl); (case xeq7 => decide); (case xkq7 => exact rfl); (case xmq7 => decide); (case xaq7 => exact rfl); (case xbq7 => exact rfl); (case xabq7 => decide); (case xdaq7 => decide); (case xdbq7 => decide); (case xzq7 => (refine Nat.le_trans (Nat.min_le_left _ _) ?_; rw [sizeLine_eq]; omega)); (case xsq7 => exact fun _ => rfl); (case' xQq7 => (intro D'q vs'q h'q tk'q F'q N'q l1'q IA'q; k_lt l1'q; (try k_sweep))); k_whole))
  trivial
theorem in_rep (n : Nat) : KBa.In (List.replicate n [(0 : Int)]).flatten := by
  intro v hv
  obtain ⟨l, hl, hv⟩ := List.mem_flatten.mp hv
  rw [(List.mem_replicate.mp hl).2] at hv
  rw [List.mem_singleton.mp hv]
  decide
theorem in_xor (x y : Array UInt8) : KBa.In (xorInts x y) := by
  intro v hv
  rw [← xorInts_eq] at hv
  obtain ⟨i, _, rfl⟩ := List.mem_map.mp hv
  exact xorAt_in x y i
theorem xor_len {x y : Array UInt8} (h : x.size ≤ 77) : (xorInts x y).length ≤ 16777216 := by
  rw [← xorInts_eq, List.length_map, List.length_range]
  omega
theorem in_one {a : Int} (h0 : 0 ≤ a) (h1 : a < 256) : KBa.In [a] := by
  intro v hv
  rw [List.mem_singleton.mp hv]
  exact ⟨h0, h1⟩
theorem in_three {a : Int} (h0 : 0 ≤ a) (h1 : a < 65536) : KBa.In [a.fdiv 256, a.fmod 256, 0] := by
  have e1 : a.fdiv 256 = a / 256 := Int.fdiv_eq_ediv_of_nonneg _ (by decide)
  have e2 : a.fmod 256 = a % 256 := Int.fmod_eq_emod_of_nonneg _ (by decide)
  intro v hv
  rw [e1, e2] at hv
  simp only [List.mem_cons, List.not_mem_nil, or_false] at hv
  rcases hv with rfl | rfl | rfl
  · omega
  · omega
  · decide
theorem zeros_eq (n : Nat) : byteArr (List.replicate n [(0 : Int)]).flatten = ((List.replicate n [(0 : UInt8)]).flatten).toArray := by
  unfold byteArr
  congr 1
  induction n with
  | zero => rfl
  | succ n ih =>
    rw [List.replicate_succ, List.replicate_succ, List.flatten_cons, List.flatten_cons, List.map_append, ih]
    rfl
theorem lay69 : True := by
  k_with "m:call type:bytes" => (k_here; (with_reducible show wpAny _ _ (call (Value.type "bytes") [Value.ref _]) _ _ _); k_dflt (refine' KBa.make_K ?kbaFq7 ?kbaNq7 ?kbahq7 ?kbalq7 ?kbaiq7 ?kbarq7 ?kbanq7 ?_; (case kbaFq7 => k_asm); (case kbaNq7 => k_asm); (case kbahq7 => rfl); (case kbalq7 => first | kba_isList | exact ex_list (by k_asm) (by k_mem)); (case kbaiq7 => first | with_reducible assumption | kba_listInts); (case kbarq7 => first | with_reducible assumption | exact in_rep _ | exact in_xor _ _ | exact in_one (by omega) (by omega) | exact in_three (by omega) (by omega)); (case kbanq7 => first | exact xor_len (by with_reducible assumption) | kba_size | (simp; omega))); intro _ _ _ F'q N'q kbaInq; clear kbaInq; (try rw [zeros_eq]))
  trivial
theorem news_tl {h₀ h : Heap} {L : Addr} {a : Addr × Obj} {r : List (Addr × Obj)} (N : News h₀ L h (a :: r)) : News h₀ L h r := fun p hp => N p (.tail _ hp)
theorem news_pick {h₀ h : Heap} {L : Addr} {t1 t2 a b c d : Addr × Obj} {r : List (Addr × Obj)} (N : News h₀ L h (t1 :: t2 :: a :: b :: c :: d :: r)) : News h₀ L h (d :: a :: b :: c :: r) := fun p hp => by
  apply N p
  simp only [List.mem_cons] at hp ⊢
  rcases hp with h | h | h | h | h
  · exact .inr (.inr (.inr (.inr (.inr (.inl h)))))
  · exact .inr (.inr (.inl h))
  · exact .inr (.inr (.inr (.inl h)))
  · exact .inr (.inr (.inr (.inr (.inl h))))
  · exact .inr (.inr (.inr (.inr (.inr (.inr h)))))
section
variable {M : Model} {A : Around} {env : Env} {n : Str} {t : Tok} {Q : Unit → Shared → Prop} {E : Value → Shared → Prop} {s : Shared}
theorem fs_dig {u : Int} (h : ∀ v, 48 ≤ v → v ≤ 71 → wpAny M A (storeName env n (.int v t)) Q E s) : wpAny M A (storeName env n (.int (48 + u.fmod 24) t)) Q E s :=
  h _ (by have := Int.fmod_nonneg_of_pos u (show (0 : Int) < 24 by decide); omega) (by have := Int.fmod_lt_of_pos u (show (0 : Int) < 24 by decide); omega)
theorem fs_mod {u k : Int} (hk : 0 < k) (h : ∀ v, 0 ≤ v → v < k → wpAny M A (storeName env n (.int v t)) Q E s) : wpAny M A (storeName env n (.int (u.fmod k) t)) Q E s :=
  h _ (Int.fmod_nonneg_of_pos u hk) (Int.fmod_lt_of_pos u hk)
end
theorem lay70 : True := by
  k_with "m:storeName" => ((with_reducible show wpAny _ _ (storeName _ (PySem.Str.ofString "digits") (Value.int (48 + _) _)) _ _ _); k_dflt (refine fs_dig ?_); intro v'q g1q g2q)
  k_with "m:storeName" => ((with_reducible show wpAny _ _ (storeName _ _ (Value.int (Int.fmod _ _) _)) _ _ _); k_dflt (refine fs_mod (by decide) ?_); intro v'q g1q g2q)
  k_with "m:storeName" => ((with_reducible show wpAny _ _ (storeName _ (PySem.Str.ofString "due") (Value.bytes (List.toArray []) _)) _ _ _); (rename News _ _ _ _ => N9q); (have N8q := news_tl N9q); clear N9q; (k_dflt (refine' storeX_C ?Fq7 ?Nq7 ?cq7 ?Uq7 ?dq7 ?_ ?aq7 ?bq7; (case aq7 => rfl); (case bq7 => rfl); (case Fq7 => k_asm); (case Nq7 => k_asm); (case cq7 => rfl); (case Uq7 => k_updF); (case dq7 => k_asm); k_whole; intro h'q o'q F'q N'q d'q; (try dsimp only at N'q); (try k_sweep))))
  k_with "m:call ref" => ((with_reducible show wpAny _ _ (call (Value.ref 614) [Value.int _ _] _) _ _ _); (k_dflt (refine' hashmk_c ?qFq7 ?qKq7 ?qDq7 ?qUq7 ?q1q7 ?q2q7 ?q3q7 ?q4q7 ?q5q7 ?xCq7 ?xnq7 ?d1q7 ?d2q7 ?_; (case qFq7 => first | assumption | exact rfl); (case qKq7 => first | assumption | exact rfl); (case qDq7 => ((try simp +zetaDelta only [depth_mark, depth_under_make, depth_under_kw, depth_in1, depth_deeper]); (try dsimp only); omega)); (case qUq7 => ((try simp +zetaDelta only [units_under_make, units_in1, units_deeper, Around.mark_units]); (try dsimp only); omega)); (case q1q7 => k_asm); (case q2q7 => k_asm); (case q3q7 => k_asm); (case q4q7 => exact news_pick (by k_asm)); (case q5q7 => k_asm); (case xCq7 => assumption); (case xnq7 => ((repeat (refine List.forall_mem_cons.mpr (And.intro (by first | decide | exact Nat.ne_of_gt (by omega)) ?_))); first | with_reducible assumption | exact List.forall_mem_nil _)); (case d1q7 => assumption); (case d2q7 => assumption); k_whole; intro f'q fo'q c'q oc'q cl'q co'q tb'q h'q tk'q F'q N'q HC'q fo9'q gl'q gc'q gf'q; (try k_lt gl'q); (try dsimp only); (try k_sweep))))
  k_with "m:call ref" => ((with_reducible show wpAny _ _ (call (Value.ref 530) [Value.int _ _, Value.int _ _] _) _ _ _); k_dflt (refine' fq530_new ?qFq7 ?qKq7 ?qDq7 ?qUq7 ?q1q7 ?q2q7 ?q3q7 ?q4q7 ?q5q7 ?rqq7 ?_; (k_extra "std"); (case rqq7 => (first | assumption | omega | decide)); k_whole; intro x'q dx'q t1'q t2'q t3'q t4'q h'q tk'q F'q N'q l1q l2q b1q b2q; (try dsimp only); (try k_sweep); (k_lt l1q); (have q2'q : @LT.lt Nat _ _ _ := l2q); clear l2q))
  k_with "m:eval ListComp" => ((with_reducible show wpAny _ _ (eval (PySem.Expr.ListComp (PySem.Expr.Attribute _ _ _) _ _ _) _) _ _ _); k_dflt (refine ListComp_Tup (by k_asm) (by with_unfolding_all rfl) (by decide) (by rfl) (by decide) (by rfl) ?_))
  k_with "m:eval ListComp" => ((with_reducible show wpAny _ _ (eval (PySem.Expr.ListComp (PySem.Expr.BinOp _ Operator.Mod _ _) _ _ _) _) _ _ _); k_dflt (refine ListComp_G (by k_asm) (by with_unfolding_all rfl) (by decide) (by rfl) (by decide) (by rfl) ?_))
  k_with "m:call ref" => ((with_reducible show wpAny _ _ (call (Value.ref _) [Value.bytes _ _, Value.str _ _]) _ _ _); kfb_any; (k_dflt (refine' fb_call (KFB.at_of ?fbNq7 ?fbMq7) ?fbzq7 ?_; (case fbNq7 => k_asm); (case fbMq7 => k_mem); (case fbzq7 => exact pick64_int (by omega) rfl); k_whole)); intro t'q k'q)
  trivial
theorem dv_val {due : Array UInt8} {p : Int} {i : Nat} (hp : 0 < p) : (KFB.value (KBw.bInts (KBy.picked due (some (64 * (0 + (i : Int)))) (some (64 * (0 + (i : Int)) + 64))))).fmod p = dvA due p i := by
  rw [Int.fmod_eq_emod_of_nonneg _ (Int.le_of_lt hp), Int.zero_add]
  rfl
noncomputable def KV (f : Nat → Int) (nw0 : List (Addr × Obj)) (i : Nat) (ys : List Value) (nw : List (Addr × Obj)) : Prop := nw = nw0 ∧ IntsAre ys ((List.range i).map f)
theorem KV.zero (f : Nat → Int) (nw0 : List (Addr × Obj)) : KV f nw0 0 [] nw0 := ⟨rfl, .nil⟩
theorem KV.next {f : Nat → Int} {nw0 : List (Addr × Obj)} {i : Nat} {ys : List Value} {n : Int} {t : Tok} (h : IntsAre ys ((List.range i).map f)) (e : Hid (n = f i)) : KV f nw0 (i + 1) (ys ++ [.int n t]) nw0 := by
  refine ⟨rfl, ?_⟩
  rw [List.range_succ, List.map_append, List.map_singleton, ← e.out]
  exact ints_snoc h
theorem fq_names {P : Params} {p c : Int} {U : Array UInt8} {objs : List (Addr × Obj)} {vs : List Value} (_FA : FqAll P p objs vs ((List.range (c - 0).toNat).map (hvA U p))) : ∃ U' c', U' = U ∧ c' = c := ⟨_, _, rfl, rfl⟩
theorem fq_item {P : Params} {p : Int} {objs rest : List (Addr × Obj)} {vs : List Value} {f : Nat → Int} {c i : Nat} {v : Value} (FA : FqAll P p objs vs ((List.range c).map f)) (hi : i < vs.toArray.size) (hP : vs.toArray[i]? = some v) :
    ∃ a d n t1 t2 t3 t4, v = .ref a ∧ (a, instObj 530 d) ∈ objs ++ rest ∧ (d, fqD P p n t1 t2 t3 t4) ∈ objs ++ rest ∧ Hid (n = f i) := by
  have hl := FA.1
  have hic : i < c := by rw [List.length_map, List.length_range] at hl; rw [List.size_toArray] at hi; omega
  obtain ⟨a, d, t1, t2, t3, t4, h1, h2, h3⟩ := FA.2 i (f i) (by simp [hic])
  refine ⟨a, d, _, t1, t2, t3, t4, ?_, List.mem_append_left _ h2, List.mem_append_left _ h3, ⟨rfl⟩⟩
  rw [List.getElem?_toArray, h1] at hP
  exact (Option.some.inj hP).symm
theorem KF.done {a1 a2 a3 a4 : Addr × Obj} {c2 : Addr} {post : List (Addr × Obj)} {dig : Int} {b0 dp : Array UInt8} {g0 : Array GenState} {i : Nat} {nw : List (Addr × Obj)} {gn : Array GenState} (h : KF a1 a2 a3 a4 c2 post dig b0 dp g0 i nw gn) :
    ∃ o t d, nw = a1 :: a2 :: a3 :: a4 :: (c2, o) :: post ∧ o.data = .cell (some (.bytes d t)) ∧ gn = g0 ∧ Hid (d = dueA dig b0 dp i) := by
  obtain ⟨o, t, h1, h2, h3⟩ := h
  exact ⟨o, t, _, h1, h2, h3, ⟨rfl⟩⟩
noncomputable abbrev tupL (vs : List Value) : Obj := { cls := .type "tuple", data := .seq vs.toArray }
theorem mem_zero {P : Params} {p : Int} {a : Addr} {t1 t2 t3 t4 : Tok} {l : List (Addr × Obj)} (h : (a, fqD P p (0 % p) t1 t2 t3 t4) ∈ l) : (a, fqD P p 0 t1 t2 t3 t4) ∈ l := by rwa [Int.zero_emod] at h
theorem lay71 : True := by
  k_with "m:call ref" => ((with_reducible show wpAny _ _ (call (Value.ref 78) [Value.bytes _ _, Value.int _ _, Value.bytes _ _, Value.ref _, Value.int _ _, Value.int _ _, Value.ref _] _) _ _ _); (with_reducible rename HashC _ _ _ _ _ _ _ _ => hc9q); (with_reducible rename IsFnO _ => fo9q); (k_dflt (refine' h2f_c ?qFq7 ?qKq7 ?qDq7 ?qUq7 ?q1q7 ?q2q7 ?q3q7 ?q4q7 ?q5q7 hc9q fo9q ?m1q7 ?m2q7 ?m3q7 ?x1q7 ?x2q7 ?xtq7 ?xCq7 ?xC2q7 ?xnq7 ?d1q7 ?d2q7 ?b1q7 ?b2q7 ?g1q7 ?g2q7 ?c0q7 ?c1q7 ?p1q7 ?p2q7 ?_; (case qFq7 => first | assumption | exact rfl); (case qKq7 => first | assumption | exact rfl); (case qDq7 => ((try simp +zetaDelta only [depth_mark, depth_under_make, depth_under_kw, depth_in1, depth_deeper]); (try dsimp only); omega)); (case qUq7 => ((try simp +zetaDelta only [units_under_make, units_in1, units_deeper, Around.mark_units]); (try dsimp only); omega)); (case q1q7 => k_asm); (case q2q7 => k_asm); (case q3q7 => k_asm); (case q4q7 => (refine' Pull.news ?pNq7 ?pPq7; (case pNq7 => k_asm); (case pPq7 => (repeat (first | with_reducible exact Pull.here | with_reducible apply Pull.there))))); (case q5q7 => k_asm); (case m1q7 => k_mem); (case m2q7 => k_mem); (case m3q7 => k_mem); (case x1q7 => k_mem); (case x2q7 => exact mem_zero (by k_mem)); (case xtq7 => exact Or.inl rfl); (case xCq7 => assumption); (case xC2q7 => assumption); (case xnq7 => ((repeat (refine List.forall_mem_cons.mpr (And.intro (by first | decide | exact Nat.ne_of_gt (by omega)) ?_))); first | with_reducible assumption | exact List.forall_mem_nil _)); (case d1q7 => assumption); (case d2q7 => assumption); (case b1q7 => assumption); (case b2q7 => assumption); (case g1q7 => assumption); (case g2q7 => assumption); (case c0q7 => assumption); (case c1q7 => assumption); (case p1q7 => assumption); (case p2q7 => assumption); k_whole; intro ps'q b0'q U'q D'q vs'q objs'q h'q tk'q gn'q ht'q eb0'q eU'q FA'q F'q N'q gb'q; (replace eb0'q := Hid.mk eb0'q); (replace eU'q := Hid.mk eU'q); (try dsimp only); (try k_sweep))))
  trivial
section
variable {w : World} {p : Program} {loose : List Str} {mean : ExcName → Option Value} {mg mb : Str → Option Value} {dp un : Nat} {gd : Option (List Code)} {A₀ : Around} {env : Env} {outer : List Env} {base h₀ : Heap} {L : Addr} {m : Str → Option Value} {s : Shared} {Q E : Value → Shared → Prop} {news : List (Addr × Obj)}
set_option maxRecDepth 100000 in
set_option maxHeartbeats 8000000 in
theorem fields_c {l : Addr} {vs : List Value} {ns : List Int} {p' : Int} {tp : Tok}
    (hf : env.frame = some L) (hke : env.scope.kind = .function) (hdp : dp ≤ 500) (hun : un ≤ 5000)
    (B : Below A₀ base outer h₀) (F : Fr h₀ L s.heap m) (X : (hd.heap_1 w.params).In h₀) (N : News h₀ L s.heap ((59, tabObj #[]) :: (609, tabObj #[]) :: news)) (T : Top p loose mean mg mb h₀)
    (hl : base.IsList l vs.toArray) (hi : IntsAre vs ns) (hns : ns.length ≤ 63)
    (C : CodeW base 63 59) (C2 : CodeW base 613 609) (h59 : ∀ p ∈ news, p.1 ≠ 59) (h609 : ∀ p ∈ news, p.1 ≠ 609) (hp' : 7 ≤ p') (hp2 : p' ≤ 127)
    (hret : ∀ (ps' tb : Array Value) (h' : Heap) (tk' : Nat) (gn : Array GenState), Fr h₀ L h' m → News h₀ L h' ((59, tabObj ps') :: (609, tabObj tb) :: news) → (AllBare s.gens → AllBare gn) → Q (.bool true) { s with heap := h', toks := tk', gens := gn }) :
    wpAny (model PR w) (ar dp un gd env outer) (call (.ref 626) [.ref l, .int p' tp]) Q E s := by
  refine wpAny_call ?_
  (k_dflt (refine' code_defCB (fun y => if y = Str.ofString "script" then some (.ref l) else none) (fun y => if y = Str.ofString "p" then some (.int p' tp) else none) ?k1 ?k2 ?k3 ?k4 ?k5 ?kA ?kF ?kK ?k6 ?k7 ?k8 ?kP ?k9 ?kB ?kD ?kL ?kC ?_ ?c2 ?c3 ?c4; (case kA => exact rfl); (case kF => first | assumption | exact rfl); (case kK => first | assumption | exact rfl); (case k1 => k_asm); (case k2 => k_asm); (case k3 => k_asm); (case k4 => k_asm); (case k5 => k_asm); (case k6 => k_is); (case k7 => k_is); (case k8 => k_room); (case kP => first | exact BindsP.cons BindsP.nil | exact BindsP.cons (BindsP.cons BindsP.nil) | exact BindsP.cons (BindsP.cons (BindsP.cons BindsP.nil)) | exact BindsP.cons (BindsP.cons (BindsP.cons (BindsP.cons BindsP.nil)))); (case k9 => first | exact BindsTo.of_eq rfl | exact binds_K (by k_in) rfl (by k_is) rfl rfl rfl | fail "k_enter: no rule for these arguments"); (case kB => exact rfl); (case kD => decide +kernel); (case kL => (intro _; funext y; exact rfl)); (case kC => (intro _; funext y; exact rfl)); (case c2 => exact rfl); (case c3 => exact rfl); (case c4 => exact rfl); k_whole; intro g' L' h' tk' cells' FG' F' N' Y' B' X' T' l1; (try k_lt l1); k_cells Y'; (try simp only [List.cons_append, List.nil_append] at N'); (try dsimp only); (try k_lift B'); (first | refine let q' : Flow → Shared → Prop := _; let e' : Value → Shared → Prop := _; let o' : Around := _; let v' : Env := _; let a' : Around := Around.deeper o' v'; let s' : Shared := _; (?_ : wpAny _ a' (execs _ v') q' e' s') | skip)))
  have hnL : ∀ p ∈ news, p.1 ≠ L' + 1 + 1 := fun p hp => Nat.ne_of_lt (Nat.lt_succ_of_lt (Nat.lt_succ_of_lt (kst_ltOf l1.2.2 p hp)))
  k_steps
  with_reducible rename (_ = hashA _ (_ ++ _ ++ _ ++ _ ++ _)) => e0
  refine' ForG.of2 (Str.ofString "last") (Str.ofString "first") (lastA _ _ _) (fun _ => _) (KF _ _ _ _ _ _ _ _ _ _) (by decide) (by decide) (by decide) ?hr ?hs ?hn ?F ?N ?h0 ?e1 ?e2 ?turn ?done
  case hr => assumption
  case F => k_asm
  case N => exact news_tl (news_tl (news_tl (news_tl (by assumption))))
  case e2 => exact rfl
  case hn => exact rangeSize_nat _ _
  case h0 => exact KF.zero e0 (by assumption)
  case e1 => exact last0 e0
  case hs => (refine' dgt_small ?_ ?_ ?_ ?_ <;> assumption)
  case turn =>
    rintro I i t t1 t2 nw h tk gn hi hI ⟨o, td, rfl, hd, rfl⟩ hoff FF NN
    have hi4 := dgt_lt hi (by assumption) (by assumption) (by assumption) (by assumption)
    k_lt hI
    have ⟨hla, hdl⟩ := KF.sizes e0 hi4
    replace FF : Fr g' L' h _ := FF
    replace NN : News g' L' h _ := NN
    clear hret N
    k_steps
    · with_reducible rename (_ = hashA _ (_ ++ byteArr [0 + _ + 1] ++ _ ++ _)) => eb9
      have eb8 := chain_later eb9 (by assumption)
      refine' ForGEnd.intro ?F9 ?N9 ?sub9 (off_cell hoff) ?jj
      case F9 => k_asm
      case N9 => k_asm
      case sub9 => (repeat (first | exact fun _ h9 => h9 | refine sub_tail ?_))
      case jj =>
        refine ⟨⟨last_next eb8, ⟨_, rfl⟩, ?_⟩, KF.next eb8 (by assumption)⟩
        intro z h1 h2 h3
        first | (simp only [if_neg h1, if_neg h2, if_neg h3]; done) | (simp +zetaDelta only [upd, if_neg h1, if_neg h2, if_neg h3]; done)
    · with_reducible rename (_ = hashA _ (_ ++ byteArr [0 + _ + 1] ++ _ ++ _)) => eb9
      have eb8 := chain_first eb9 (by assumption)
      refine' ForGEnd.intro ?F9 ?N9 ?sub9 (off_cell hoff) ?jj
      case F9 => k_asm
      case N9 => k_asm
      case sub9 => (repeat (first | exact fun _ h9 => h9 | refine sub_tail ?_))
      case jj =>
        refine ⟨⟨last_next eb8, ⟨_, rfl⟩, ?_⟩, KF.next eb8 (by assumption)⟩
        intro z h1 h2 h3
        first | (simp only [if_neg h1, if_neg h2, if_neg h3]; done) | (simp +zetaDelta only [upd, if_neg h1, if_neg h2, if_neg h3]; done)
  case done =>
    intro u t1 t2 h tk gn nw hK FF NN
    obtain ⟨o, td, due, rfl, hd, rfl, hdue⟩ := hK.done
    clear hK
    generalize lastA _ _ _ _ = la at FF
    replace FF : Fr g' L' h _ := FF
    replace NN : News g' L' h _ := NN
    clear N
    replace e0 := Hid.mk e0
    have hdz : due.size ≤ 308 := by
      rw [hdue.out]
      refine Nat.le_trans (dueA_le _ _ _ _) ?_
      exact dgt_77 (by assumption) (by assumption) (by assumption) (by assumption)
    k_steps
    with_reducible rename FqAll _ _ _ _ _ => FA
    obtain ⟨U, cn, eU1, ec1⟩ := fq_names FA
    subst eU1 ec1
    with_reducible rename Hid (_ = uniA _ _ _ _ _) => eU
    with_reducible rename Hid (_ = hashA _ (_ ++ (_ ++ _))) => eb
    refine' CompTup.of (KV (hvA U p') _) rfl ?F ?N ?hm ?hz (KV.zero _ _) ?tu ?dn
    case F => k_asm
    case N => k_asm
    case hm => k_mem
    case hz => (rw [List.size_toArray, FA.1]; simp; rw [sizeLine_eq]; omega)
    case tu =>
      rintro I C D oI oC i v m₂ ys nw h tk E' hi hP ⟨rfl, hI⟩ hl hC hx off ne F N
      obtain ⟨a, d, n, t1, t2, t3, t4, rfl, hm1, hm2, hn⟩ := fq_item (rest := _) FA hi hP
      k_steps
      refine' TurnEnd.intro ?F ?N (fun _ h9 => h9) off ⟨_, by k_mem⟩ (KV.next hI hn)
      case F => k_asm
      case N => k_asm
    case dn =>
      rintro D ys nw h tk hl ⟨rfl, hI⟩ off F N
      k_steps
      refine' CompSrcG.rangeE (KV (dvA due p') _) rfl ?F ?N ?hr ?hs ?hn ?hz (KV.zero _ _) ?tu ?dn
      case F => k_asm
      case N => k_asm
      case hr => assumption
      case hs => exact small_one (by omega) (by omega) (by omega) (by omega)
      case hn => exact rangeSize_nat _ _
      case hz => (rw [sizeLine_eq]; omega)
      case tu =>
        rintro I C D oI oC i v m₂ ys nw h tk E' hi ⟨t, rfl⟩ ⟨rfl, hI⟩ hl hC hx off ne F N
        k_steps
        refine' TurnEnd.intro ?F ?N ?sub off True.intro (KV.next hI ?hv)
        case F => k_asm
        case N => k_asm
        case sub => (repeat (first | exact fun _ h9 => h9 | refine sub_tail ?_))
        case hv => exact ⟨dv_val (by omega)⟩
      case dn =>
        rintro D ys nw h tk hl ⟨rfl, hI⟩ off F N
        k_steps
        refine ret_bool (decide_eq_true (fields_law eU eb e0 hdue (by assumption) (by assumption) FA)) (hret _ _ _ _ _ (by k_asm) (cb_drop (by k_asm) (sub_cons (by k_mem) (sub_cons (by k_mem) ?_))) (by with_reducible assumption))
        intro p hp
        k_mem
end

-- piece vgen
noncomputable def vProto (C : Addr) (fp wr : List Addr) (n₀ : Nat) (FH : Nat → Value → Heap → Heap → Prop) : Protocol := fun m s₀ v s kap =>
  FH (n₀ - 1 - m) v s₀.heap s.heap ∧ GenSince C wr s₀ s ∧ ∀ s'' : Shared, (∀ b ∈ C :: fp, ∀ o, s.heap.get? b = some o → s''.heap.get? b = some o) → kap (.send .none) s''
noncomputable def KeepB (C : Addr) (m : Str → Option Value) (s s' : Shared) : Prop := ∃ h' tk, s' = { s with heap := h', toks := tk } ∧ (∀ b o, b ≠ C → s.heap.get? b = some o → h'.get? b = some o) ∧ h'.Ns C m
noncomputable def VElt (prog : Program) (w : World) (A : Around) (cenv : Env) (x : Str) (elt : PySem.Expr) (fp wr : List Addr) (n₀ : Nat) (P : Nat → Value → Prop) (FH : Nat → Value → Heap → Heap → Prop) (href : Heap) : Prop :=
  ∀ E' i v (s₀ s₂ : Shared) m₂, i < n₀ → P i v → s₂.heap.Ns cenv.locals m₂ → m₂ x = some v → (∀ b ∈ fp, b ∉ wr → ∀ o, href.get? b = some o → s₂.heap.get? b = some o) → GenSince cenv.locals wr s₀ s₂ → (∀ b ∈ wr, ∃ o, s₂.heap.get? b = some o) →
    wpAny (model prog w) A (eval elt cenv) (fun y s₃ => FH i y s₀.heap s₃.heap ∧ KeepB cenv.locals m₂ s₂ s₃) E' s₂
section
variable {prog : Program} {w : World} {A : Around}
theorem seg_genLoopV {elt iter : PySem.Expr} {x : Str} {px : Pos} {scope : Scope} {pos : Pos} {I : Addr} {fp wr : List Addr} {n₀ : Nat} {P : Nat → Value → Prop} {St₀ : Nat → Heap → Prop} {cenv : Env}
    (hh : A.handled = none) (W₀ : ∀ A' : Around, A'.handled = none → Walks prog w A' I fp wr n₀ P St₀) (FH : Nat → Value → Heap → Heap → Prop) (href : Heap) (hwr : ∀ i h, St₀ i h → ∀ b ∈ wr, ∃ o, h.get? b = some o)
    (hx : cenv.kindOf x = some .local) (hp : (cenv.scope.kind == .class || (cenv.scope.kind == .module && cenv.locals != cenv.globals)) = false)
    (hco : cenv.scope.isCoroutine = false) (hCf : cenv.locals ∉ fp) (hq : VElt prog w (A.over (.compLoop (.GeneratorExp elt [⟨.Name x px, iter, [], 0⟩] scope pos) 0 (.ref I) .none cenv) []) cenv x elt fp wr n₀ P FH href) :
    ∀ (k i : Nat) (s₀ s : Shared) (m : Str → Option Value), n₀ - i = k → i ≤ n₀ → St₀ i s.heap → s.heap.Ns cenv.locals m → GenSince cenv.locals wr s₀ s →
      (∀ b ∈ fp, b ∉ wr → ∀ o, href.get? b = some o → s.heap.get? b = some o) →
      Seg (model prog w) A (fun n s₀ r s₁ => r = .ok .next ∧ (n = 0 ∧ GenSince cenv.locals wr s₀ s₁)) (vProto cenv.locals fp wr n₀ FH) (n₀ - i) s₀
        (.compLoop (.GeneratorExp elt [⟨.Name x px, iter, [], 0⟩] scope pos) 0 (.ref I) .none cenv)
        ((model prog w).den (.compLoop (.GeneratorExp elt [⟨.Name x px, iter, [], 0⟩] scope pos) 0 (.ref I) .none cenv)) [] s := by
  have hh' : (A.over (.compLoop (.GeneratorExp elt [⟨.Name x px, iter, [], 0⟩] scope pos) 0 (.ref I) .none cenv) []).handled = none := hh
  have hCw : cenv.locals ∉ wr := fun h => hCf ((W₀ A hh).sub _ h)
  intro k
  induction k with
  | zero =>
    intro i s₀ s m hk hi hst hn hsince hkp
    have hin : i = n₀ := by omega
    subst hin
    show Seg _ A _ _ _ s₀ _ ((compTurn (.GeneratorExp elt [⟨.Name x px, iter, [], 0⟩] scope pos) 0 (.ref I) .none cenv).onRaise (leaving cenv)) [] s
    rw [compTurn_gen, Sem.onRaise_eq_wrap]
    refine seg_bind_wrap (wpAny_standAt ?_)
    refine seg_bind_wrap ((W₀ _ hh').done s _ _ hst fun h' tk hk' => ?_)
    exact seg_end (.ok .next) ⟨rfl, Nat.sub_self _, hsince.step fun b o _ hw e => hk' b o hw e⟩
  | succ k ih =>
    intro i s₀ s m hk hi hst hn hsince hkp
    have hlt : i < n₀ := by omega
    show Seg _ A _ _ _ s₀ _ ((compTurn (.GeneratorExp elt [⟨.Name x px, iter, [], 0⟩] scope pos) 0 (.ref I) .none cenv).onRaise (leaving cenv)) [] s
    rw [compTurn_gen, Sem.onRaise_eq_wrap]
    refine seg_bind_wrap (wpAny_standAt ?_)
    refine seg_bind_wrap ((W₀ _ hh').item i s _ _ hlt hst fun v h₁ tk₁ hPv hst₁ hk₁ => ?_)
    refine seg_bind_wrap (wpAny_of_eq (rfl : letOwnedTupleGo (.Name x px) (.ref I) v = pure ()) ?_)
    refine seg_bind_wrap (wpAny_assign_Name (wpAny_storeName_local hx (hn.at' fun o e => hk₁ _ o hCw e) (fun h₂ hn₂ hs₂ => ?_) hp))
    have up₂ : ∀ b o, b ≠ cenv.locals → b ∉ wr → s.heap.get? b = some o → h₂.get? b = some o := fun b o hbC hbw e => hs₂.extBut b o hbC (hk₁ b o hbw e)
    have hst₂ : St₀ (i + 1) h₂ := (W₀ A hh).frame _ _ _ hst₁ fun b hb o e => hs₂.extBut b o (fun h => hCf (h ▸ hb)) e
    have hkp₂ : ∀ b ∈ fp, b ∉ wr → ∀ o, href.get? b = some o → h₂.get? b = some o := fun b hb hbw o e => up₂ b o (fun h => hCf (h ▸ hb)) hbw (hkp b hb hbw o e)
    have hsince₂ : GenSince cenv.locals wr s₀ { s with heap := h₂, toks := tk₁ + 1 } := hsince.step fun b o hbC hbw e => up₂ b o hbC hbw e
    refine seg_bind_wrap ?_
    simp only [List.forIn_nil]
    refine wpAny_pure ?_
    simp only [if_true]
    have hy : ∀ v, yieldOut cenv v = yieldValue v := fun v => by simp only [yieldOut, hco, Bool.false_eq_true, if_false]
    simp only [hy]
    rw [Sem.bind_eq_wrap', Sem.bind_eq_wrap', Sem.wrap_wrap, Sem.wrap_wrap]
    refine seg_wrap (wpAny_mono (hq _ i v s₀ _ _ hlt hPv hn₂ (by simp) hkp₂ (by first | exact hsince₂ | exact hsince.step fun b o hbC hbw e => up₂ b o hbC hbw e) (hwr _ _ hst₂)) (fun y s₄ h₄ => ?_) fun _ _ e => e)
    obtain ⟨hFy, h₄, tk₄, rfl, hk₄, hn₄⟩ := h₄
    have hni : n₀ - i = (n₀ - (i + 1)) + 1 := by omega
    rw [hni]
    refine seg_at (seg_yield rfl rfl rfl ⟨?_, hsince.step fun b o hbC hbw e => hk₄ b o hbC (up₂ b o hbC hbw e), fun s'' hal => ?_⟩)
    · have e : n₀ - 1 - (n₀ - (i + 1)) = i := by omega
      rw [e]
      exact hFy
    · refine seg_again rfl (ih (i + 1) s'' s'' _ (by omega) hlt ((W₀ A hh).frame _ _ _ hst₂ fun b hb o e => hal b (List.mem_cons_of_mem _ hb) o (hk₄ b o (fun h => hCf (h ▸ hb)) e))
        (hn₄.at' fun o e => hal _ (List.mem_cons_self ..) o e) (GenSince.refl _ _ _) fun b hb hbw o e => hal b (List.mem_cons_of_mem _ hb) o (hk₄ b o (fun h => hCf (h ▸ hb)) (hkp₂ b hb hbw o e)))
noncomputable def GenAtV (prog : Program) (w : World) (A : Around) (a : Addr) (g : Nat) (C : Addr) (fp wr : List Addr) (n₀ : Nat) (FH : Nat → Value → Heap → Heap → Prop) (j : Nat) (s : Shared) : Prop :=
  s.heap.IsGen a g ∧ s.heap.NoLimit ∧ ∃ gs, s.gens[g]? = some gs ∧ ∀ s'' : Shared, (∀ b ∈ C :: fp, ∀ o, s.heap.get? b = some o → s''.heap.get? b = some o) →
    gs.Goes (model prog w) A.in1 (fun n s₀ r s₁ => r = .ok .next ∧ (n = 0 ∧ GenSince C wr s₀ s₁)) (vProto C fp wr n₀ FH) (n₀ - j) (.send .none) s''
theorem vgen_frame {a : Addr} {g : Nat} {C : Addr} {fp wr : List Addr} {n₀ : Nat} {FH : Nat → Value → Heap → Heap → Prop} {j : Nat} {s : Shared} {h' : Heap} {tk : Nat} (hcs : cStatics ∈ fp)
    (st : GenAtV prog w A a g C fp wr n₀ FH j s) (hk : ∀ b ∈ a :: C :: fp, ∀ o, s.heap.get? b = some o → h'.get? b = some o) : GenAtV prog w A a g C fp wr n₀ FH j { s with heap := h', toks := tk } :=
  ⟨let ⟨o, nm, qn, ho, r⟩ := st.1; ⟨o, nm, qn, hk a (List.mem_cons_self ..) o ho, r⟩,
   (let ⟨mc, hns, hnn⟩ := st.2.1; ⟨mc, hns.at' fun o e => hk cStatics (List.mem_cons_of_mem _ (List.mem_cons_of_mem _ hcs)) o e, hnn⟩),
   let ⟨gs, hgs, hgo⟩ := st.2.2; ⟨gs, hgs, fun s'' hal => hgo s'' fun b hb o e => hal b hb o (hk b (List.mem_cons_of_mem _ hb) o e)⟩⟩
theorem vgen_item {a : Addr} {g : Nat} {C : Addr} {fp wr : List Addr} {n₀ : Nat} {FH : Nat → Value → Heap → Heap → Prop} {j : Nat} {s : Shared} {Q : Option Value → Shared → Prop} {E : Value → Shared → Prop}
    (hh : A.handled = none) (haC : a ≠ C) (haf : a ∉ fp) (hsub : ∀ b ∈ wr, b ∈ fp) (hroom : A.depth < recursionLimit) (hcs : cStatics ∈ fp) (hcC : cStatics ≠ C) (hcw : cStatics ∉ wr) (hj : j < n₀)
    (st : GenAtV prog w A a g C fp wr n₀ FH j s)
    (hQ : ∀ v s', FH j v s.heap s'.heap → GenAtV prog w A a g C fp wr n₀ FH (j + 1) s' → Moved (C :: wr) (GenOnlyQ g) s s' → Q (some v) s') : wpAny (model prog w) A (pyNext (.ref a)) Q E s := by
  obtain ⟨hg, hl, gs, hgs, hgo⟩ := st
  obtain ⟨m, hm⟩ : ∃ m, n₀ - j = m + 1 := ⟨n₀ - j - 1, by omega⟩
  rw [hm] at hgo
  refine wpAny_with_toks (Nat.le_refl s.toks) ?_
  refine wpAny_pyNext_genexpQ (P := fun n s₀ s₁ => n = 0 ∧ GenSince C wr s₀ s₁) hh hl hroom hg hgs (hgo _ fun _ _ _ e => e) (fun v s₁ gs' hb hv => ?_) (fun s₁ hp h' hk => ?_)
  · obtain ⟨hF, ⟨h₁, tk₁, rfl, hk₁⟩, hkap⟩ := hv
    have hidx : n₀ - 1 - (m + 1 - 1) = j := by omega
    rw [hidx] at hF
    have haw : a ∉ wr := fun h => haf (hsub a h)
    intro htk
    refine hQ v _ hF ⟨let ⟨o, nm, qn, ho, r⟩ := hg; ⟨o, nm, qn, hk₁ a o haC haw ho, r⟩, (let ⟨mc, hns, hnn⟩ := hl; ⟨mc, hns.at' fun o e => hk₁ cStatics o hcC hcw e, hnn⟩), gs', setGen_self (gs := .running) (setGen_self hgs), fun s'' hal => ?_⟩
      ⟨fun b o hb e => hk₁ b o (fun h => hb (h ▸ List.mem_cons_self ..)) (fun h => hb (List.mem_cons_of_mem _ h)) e, GenOnlyQ.of ((GenOnly.setGen s g .running).trans (GenOnly.setGen _ g gs')) (setGen_self (gs := .running) (setGen_self hgs)) hb, rfl, rfl, htk⟩
    have e : n₀ - (j + 1) = m := by omega
    rw [e]
    exact hkap s'' hal
  · exact absurd hp.1 (Nat.succ_ne_zero m)
theorem vgen_done {a : Addr} {g : Nat} {C : Addr} {fp wr : List Addr} {n₀ : Nat} {FH : Nat → Value → Heap → Heap → Prop} {s : Shared} {Q : Option Value → Shared → Prop} {E : Value → Shared → Prop}
    (hh : A.handled = none) (hroom : A.depth < recursionLimit) (st : GenAtV prog w A a g C fp wr n₀ FH n₀ s)
    (hQ : ∀ s', Moved (C :: wr) (GenOnlyQ g) s s' → Q none s') : wpAny (model prog w) A (pyNext (.ref a)) Q E s := by
  obtain ⟨hg, hl, gs, hgs, hgo⟩ := st
  rw [Nat.sub_self] at hgo
  refine wpAny_with_toks (Nat.le_refl s.toks) ?_
  refine wpAny_pyNext_genexpQ (P := fun n s₀ s₁ => n = 0 ∧ GenSince C wr s₀ s₁) hh hl hroom hg hgs (hgo _ fun _ _ _ e => e) (fun v s₁ gs' hb hv => ?_) (fun s₁ hp h' hk => ?_)
  · obtain ⟨_, _, hkap⟩ := hv
    exact False.elim (hkap s₁ fun _ _ _ e => e)
  · obtain ⟨_, h₁, tk₁, rfl, hk₁⟩ := hp
    intro htk
    exact hQ _ ⟨fun b o hb e => hk b o (hk₁ b o (fun h => hb (h ▸ List.mem_cons_self ..)) (fun h => hb (List.mem_cons_of_mem _ h)) e), GenOnlyQ.of ((GenOnly.setGen s g .running).trans (GenOnly.setGen _ g .finished)) (setGen_self (gs := .running) (setGen_self hgs)) rfl, rfl, rfl, htk⟩
theorem seg_genStartV {elt iter : PySem.Expr} {x : Str} {px : Pos} {scope : Scope} {pos : Pos} {I : Addr} {fp wr : List Addr} {n₀ : Nat} {P : Nat → Value → Prop} {St₀ : Nat → Heap → Prop} {cenv : Env}
    (hh : A.handled = none) (W₀ : ∀ A' : Around, A'.handled = none → Walks prog w A' I fp wr n₀ P St₀) (FH : Nat → Value → Heap → Heap → Prop) (href : Heap) (hwr : ∀ i h, St₀ i h → ∀ b ∈ wr, ∃ o, h.get? b = some o)
    (hx : cenv.kindOf x = some .local) (hp : (cenv.scope.kind == .class || (cenv.scope.kind == .module && cenv.locals != cenv.globals)) = false)
    (hco : cenv.scope.isCoroutine = false) (hCf : cenv.locals ∉ fp) (hq : VElt prog w (A.over (.compLoop (.GeneratorExp elt [⟨.Name x px, iter, [], 0⟩] scope pos) 0 (.ref I) .none cenv) []) cenv x elt fp wr n₀ P FH href)
    (s₀ s : Shared) (m : Str → Option Value) (hst : St₀ 0 s.heap) (hn : s.heap.Ns cenv.locals m) (hsince : GenSince cenv.locals wr s₀ s)
    (hkp : ∀ b ∈ fp, b ∉ wr → ∀ o, href.get? b = some o → s.heap.get? b = some o) :
    Seg (model prog w) A (fun n s₀ r s₁ => r = .ok .next ∧ (n = 0 ∧ GenSince cenv.locals wr s₀ s₁)) (vProto cenv.locals fp wr n₀ FH) n₀ s₀
      (.compStart (.GeneratorExp elt [⟨.Name x px, iter, [], 0⟩] scope pos) 0 (.ref I) .none cenv)
      ((model prog w).den (.compStart (.GeneratorExp elt [⟨.Name x px, iter, [], 0⟩] scope pos) 0 (.ref I) .none cenv)) [] s := by
  have hh' : (A.over (.compStart (.GeneratorExp elt [⟨.Name x px, iter, [], 0⟩] scope pos) 0 (.ref I) .none cenv) []).handled = none := hh
  have loop := seg_genLoopV (iter := iter) (px := px) (scope := scope) (pos := pos) hh W₀ FH href hwr hx hp hco hCf hq n₀ 0 s₀ s m (Nat.sub_zero _) (Nat.zero_le _) hst hn hsince hkp
  show Seg _ A _ _ _ s₀ _ ((compStart (.GeneratorExp elt [⟨.Name x px, iter, [], 0⟩] scope pos) 0 (.ref I) .none cenv).onRaise (leaving cenv)) [] s
  unfold compStart
  rw [Sem.onRaise_eq_wrap]
  show Seg _ A _ _ _ s₀ _ ((ask >>= _).wrap _ _ _ _) [] s
  refine seg_bind_wrap (wpAny_askSetting ?_)
  split
  · exact seg_again rfl loop
  · first
      | exact seg_bind_wrap (wpAny_rule (seg_bind_wrap (wpAny_standAt (seg_bind_wrap ((W₀ _ hh').self 0 s _ _ hst (seg_again rfl loop))))))
      | (refine seg_bind_wrap (wpAny_rule ?_); show Seg _ A _ _ _ s₀ _ ((standAt iter.pos >>= _).wrap _ _ _ _) [] s; exact seg_bind_wrap (wpAny_standAt (seg_bind_wrap ((W₀ _ hh').self 0 s _ _ hst (seg_again rfl loop)))))
theorem GenAtV.fresh {elt iter : PySem.Expr} {x : Str} {px : Pos} {scope : Scope} {pos : Pos} {I a : Addr} {g : Nat} {fp wr : List Addr} {n₀ : Nat} {P : Nat → Value → Prop} {St₀ : Nat → Heap → Prop} {cenv : Env}
    (hh : A.handled = none) (W₀ : ∀ A' : Around, A'.handled = none → Walks prog w A' I fp wr n₀ P St₀) (FH : Nat → Value → Heap → Heap → Prop) (hwr : ∀ i h, St₀ i h → ∀ b ∈ wr, ∃ o, h.get? b = some o)
    (hx : cenv.kindOf x = some .local) (hp : (cenv.scope.kind == .class || (cenv.scope.kind == .module && cenv.locals != cenv.globals)) = false)
    (hco : cenv.scope.isCoroutine = false) (hCf : cenv.locals ∉ fp) {s : Shared} {m : Str → Option Value} (hq : VElt prog w (A.in1.over (.compLoop (.GeneratorExp elt [⟨.Name x px, iter, [], 0⟩] scope pos) 0 (.ref I) .none cenv) []) cenv x elt fp wr n₀ P FH s.heap)
    (hg : s.heap.IsGen a g) (hgs : s.gens[g]? = some (.fresh (.compStart (.GeneratorExp elt [⟨.Name x px, iter, [], 0⟩] scope pos) 0 (.ref I) .none cenv)))
    (hst : St₀ 0 s.heap) (hn : s.heap.Ns cenv.locals m) (hl : s.heap.NoLimit) : GenAtV prog w A a g cenv.locals fp wr n₀ FH 0 s :=
  ⟨hg, hl, _, hgs, fun s'' hal => ⟨rfl, seg_genStartV (A := A.in1) hh W₀ FH s.heap hwr hx hp hco hCf hq s'' s'' m ((W₀ A hh).frame _ _ _ hst fun b hb o e => hal b (List.mem_cons_of_mem _ hb) o e)
    (hn.at' fun o e => hal _ (List.mem_cons_self ..) o e) (GenSince.refl _ _ _) fun b hb _ o e => hal b (List.mem_cons_of_mem _ hb) o e⟩⟩
end
section
variable {prog : Program} {w : World} {A : Around} {E : Value → Shared → Prop} {s : Shared}
theorem GenExp_V {env : Env} {elt iter : PySem.Expr} {x : Str} {px : Pos} {scope : Scope} {cl : List (Str × Addr)} {pos : Pos} {Q : Value → Shared → Prop}
    (hh : A.handled = none) (hco : scope.isCoroutine = false) (hclos : closureFor scope env = pure cl) (hcell : ∀ y ∈ scope.names, y.2 ≠ .cell) (h0 : scope.names.lookup (".0" : Str) = some NameKind.local)
    (hx : scope.names.lookup x = some .local) (hkind : scope.kind = .function) (hroom : A.depth < recursionLimit)
    (h : wpAny (model prog w) A (eval iter env) (fun xv s₁ => wpAny (model prog w) A (pyIter xv) (fun it s₂ => s₂.heap.NoLimit ∧
      wpAny (model prog w) A (genexprCode env pos (env.qual ++ "<genexpr>") scope) (fun code s₃ => wpAny (model prog w) A (builtinsFor env.globals env.builtins) (fun bi s₄ =>
        ∃ I fp wr n₀ P St₀ FH, it = .ref I ∧ (∀ A' : Around, A'.handled = none → Walks prog w A' I fp wr n₀ P St₀) ∧ (∀ i h, St₀ i h → ∀ b ∈ wr, ∃ o, h.get? b = some o) ∧ St₀ 0 s₄.heap ∧ (∀ b ∈ fp, b < s₄.heap.objs.size) ∧ s₄.heap.NoLimit ∧ cStatics ∉ wr ∧
          (∀ href : Heap, (∀ b o, s₄.heap.get? b = some o → href.get? b = some o) →
            VElt prog w (A.in4.in1.over (.compLoop (.GeneratorExp elt [⟨.Name x px, iter, [], 0⟩] scope pos) 0 (.ref I) .none (genEnv scope cl s₄.heap.objs.size code bi env)) []) (genEnv scope cl s₄.heap.objs.size code bi env) x elt (List.range s₄.heap.objs.size) wr n₀ P FH href) ∧
          (∀ a h₅ tk gs, gs.bare = true → s₄.heap.objs.size < a → h₅.objs.size = a + 1 → (∀ b o, s₄.heap.get? b = some o → h₅.get? b = some o) → a ∉ List.range s₄.heap.objs.size → (∀ b ∈ wr, b ∈ List.range s₄.heap.objs.size) → cStatics ∈ List.range s₄.heap.objs.size → cStatics ≠ s₄.heap.objs.size → (∃ o, h₅.get? s₄.heap.objs.size = some o) →
            GenAtV prog w A.in4 a s₄.gens.size s₄.heap.objs.size (List.range s₄.heap.objs.size) wr n₀ FH 0 { s₄ with gens := s₄.gens.push gs, toks := tk, heap := h₅ } →
            Q (.ref a) { s₄ with gens := s₄.gens.push gs, toks := tk, heap := h₅ })) E s₃) E s₂) E s₁) E s)
    (hs : ∀ x, genFold iter env x = pure x) :
    wpAny (model prog w) A (eval (.GeneratorExp elt [⟨.Name x px, iter, [], 0⟩] scope pos) env) Q E s := by
  refine wpAny_GeneratorExp_make hco hclos hcell h0 hkind hroom (wpAny_mono h (fun xv s₁ h₁ => wpAny_mono h₁ (fun it s₂ h₂ => ⟨h₂.1, wpAny_mono h₂.2 (fun code s₃ h₃ => wpAny_mono h₃ (fun bi s₄ h₄ => ?_)
    fun _ _ e => e) fun _ _ e => e⟩) fun _ _ e => e) fun _ _ e => e) hs
  obtain ⟨I, fp, wr, n₀, P, St₀, FH, rfl, W₀, hwr, hst, hfp, hl₄, hcw, hq, hQ⟩ := h₄
  have hclt : cStatics < s₄.heap.objs.size := let ⟨_, hn, _⟩ := hl₄; hn.lt
  intro h' hn' hs'
  have hsz : h'.objs.size = s₄.heap.objs.size + 1 := by rw [hs'.1, Heap.size_push]
  have keep' : ∀ b o, s₄.heap.get? b = some o → h'.get? b = some o := fun b o e => hs'.extBut b o (Nat.ne_of_lt (Heap.lt_size e)) (Heap.get?_push_of_some _ e)
  have hsub : ∀ b ∈ wr, b ∈ List.range s₄.heap.objs.size := fun b hb => List.mem_range.mpr (hfp b ((W₀ A hh).sub b hb))
  have haf : h'.objs.size ∉ List.range s₄.heap.objs.size := fun hm => by have := List.mem_range.mp hm; omega
  have keep₅ : ∀ b o, s₄.heap.get? b = some o → (h'.push { cls := .type "generator", data := .fields #[.int s₄.gens.size 0, .str "<genexpr>" (s₄.toks + 1), .str (env.qual ++ "<genexpr>") (s₄.toks + 1 + 1)] }).get? b = some o :=
    fun b o e => Heap.get?_push_of_some _ (keep' b o e)
  have hC : ∃ o, (h'.push { cls := .type "generator", data := .fields #[.int s₄.gens.size 0, .str "<genexpr>" (s₄.toks + 1), .str (env.qual ++ "<genexpr>") (s₄.toks + 1 + 1)] }).get? s₄.heap.objs.size = some o := by
    obtain ⟨oC, _, _, e, _⟩ := hn'
    exact ⟨oC, Heap.get?_push_of_some _ e⟩
  refine hQ _ _ _ _ rfl (by omega) (by rw [Heap.size_push]) keep₅ haf hsub (List.mem_range.mpr hclt) (Nat.ne_of_lt hclt) hC ?_
  refine GenAtV.fresh (A := A.in4) (cenv := genEnv scope cl s₄.heap.objs.size code bi env) (m := fun y => if y = ".0" then some (.ref I) else none) hh
    (fun A' hA => (W₀ A' hA).mono_fp fun b hb => List.mem_range.mpr (hfp b hb)) FH hwr hx (by simp [genEnv, hkind]) hco
    (fun hm => Nat.lt_irrefl _ (List.mem_range.mp hm)) (hq _ keep₅) ⟨_, _, _, Heap.get?_push_size _ rfl, rfl, rfl, rfl⟩ (Array.getElem?_push_size ..) ((W₀ A hh).frame _ _ _ hst fun b _ o e => keep₅ b o e) (hn'.push _) (hl₄.keeps keep₅)
end

-- piece vtup
structure WalksV (prog : Program) (w : World) (A : Around) (I : Addr) (fp wr : List Addr) (G : Array GenState → Array GenState → Prop) (n : Nat) (FH : Nat → Value → Heap → Heap → Prop) (St : Nat → Shared → Prop) : Prop where
  sub : ∀ b ∈ wr, b ∈ fp
  grefl : ∀ a, G a a
  gtrans : ∀ a b c, G a b → G b c → G a c
  frame : ∀ i (s : Shared) h' tk, St i s → s.toks ≤ tk → (∀ b ∈ fp, ∀ o, s.heap.get? b = some o → h'.get? b = some o) → St i { s with heap := h', toks := tk }
  item : ∀ i (s : Shared) (Q : Option Value → Shared → Prop) (E : Value → Shared → Prop), i < n → St i s →
    (∀ v s', FH i v s.heap s'.heap → St (i + 1) s' → Moved wr G s s' → Q (some v) s') → wpAny (model prog w) A (pyNext (.ref I)) Q E s
  done : ∀ (s : Shared) (Q : Option Value → Shared → Prop) (E : Value → Shared → Prop), St n s → (∀ s', Moved wr G s s' → Q none s') → wpAny (model prog w) A (pyNext (.ref I)) Q E s
  self : ∀ i (s : Shared) (Q : Value → Shared → Prop) (E : Value → Shared → Prop), St i s → Q (.ref I) s → wpAny (model prog w) A (pyIter (.ref I)) Q E s
theorem WalksV.of_in1 {prog : Program} {w : World} {A : Around} {I : Addr} {fp wr : List Addr} {G : Array GenState → Array GenState → Prop} {n : Nat} {FH : Nat → Value → Heap → Heap → Prop} {St : Nat → Shared → Prop}
    (W : WalksV prog w A.in1 I fp wr G n FH St) : WalksV prog w A I fp wr G n FH St where
  sub := W.sub
  grefl := W.grefl
  gtrans := W.gtrans
  frame := W.frame
  item := fun i s Q E hi st hQ => wpAny_of_in1 (W.item i s Q E hi st hQ)
  done := fun s Q E st hQ => wpAny_of_in1 (W.done s Q E st hQ)
  self := fun i s Q E st hQ => wpAny_of_in1 (W.self i s Q E st hQ)
theorem WalksV.of_gen {prog : Program} {w : World} {A : Around} {a : Addr} {g : Nat} {C : Addr} {fp wr : List Addr} {n₀ : Nat} {FH : Nat → Value → Heap → Heap → Prop} (hh : A.handled = none) (haC : a ≠ C) (haf : a ∉ fp) (hsub : ∀ b ∈ wr, b ∈ fp) (hroom : A.depth < recursionLimit) (hcs : cStatics ∈ fp) (hcC : cStatics ≠ C) (hcw : cStatics ∉ wr) :
    WalksV prog w A a (a :: C :: fp) (C :: wr) (GenOnlyQ g) n₀ FH (GenAtV prog w A a g C fp wr n₀ FH) where
  sub := fun b hb => by
    rcases List.mem_cons.mp hb with rfl | hb
    · simp
    · exact List.mem_cons_of_mem _ (List.mem_cons_of_mem _ (hsub b hb))
  grefl := fun _ => .inl rfl
  gtrans := fun _ _ _ x y => x.trans y
  frame := fun i s h' tk st _ hk => vgen_frame hcs st hk
  item := fun i s Q E hi st hQ => vgen_item hh haC haf hsub hroom hcs hcC hcw hi st hQ
  done := fun s Q E st hQ => vgen_done hh hroom st hQ
  self := fun _ _ _ _ st hQ => wpAny_pyIter_gen st.1 hQ
noncomputable def RecV (FH : Nat → Value → Heap → Heap → Prop) (S : Addr) (wr : List Addr) (hs h : Heap) (acc : Array Value) (i : Nat) : Prop :=
  acc.size = i ∧ ∀ (j : Nat) v, acc[j]? = some v → ∃ h₁ h₂, FH j v h₁ h₂ ∧ (∃ o, h₁.get? S = some o) ∧ (∀ b o, b ∉ S :: wr → hs.get? b = some o → h₁.get? b = some o) ∧ (∀ b o, b ∉ S :: wr → h₂.get? b = some o → h.get? b = some o)
theorem RecV.nil (FH : Nat → Value → Heap → Heap → Prop) (S : Addr) (wr : List Addr) (hs h : Heap) : RecV FH S wr hs h #[] 0 := ⟨rfl, fun j v e => by simp at e⟩
theorem RecV.up {FH : Nat → Value → Heap → Heap → Prop} {S : Addr} {wr : List Addr} {hs h h' : Heap} {acc : Array Value} {i : Nat} (x : RecV FH S wr hs h acc i) (k : ∀ b o, b ∉ S :: wr → h.get? b = some o → h'.get? b = some o) : RecV FH S wr hs h' acc i :=
  ⟨x.1, fun j v e => let ⟨h₁, h₂, a, b, c, d⟩ := x.2 j v e; ⟨h₁, h₂, a, b, c, fun q o hq e9 => k q o hq (d q o hq e9)⟩⟩
theorem RecV.push {FH : Nat → Value → Heap → Heap → Prop} {S : Addr} {wr : List Addr} {hs h₁ h : Heap} {acc : Array Value} {i : Nat} {v : Value} (x : RecV FH S wr hs h acc i) (hF : FH i v h₁ h) (hS : ∃ o, h₁.get? S = some o) (hk : ∀ b o, b ∉ S :: wr → hs.get? b = some o → h₁.get? b = some o) : RecV FH S wr hs h (acc.push v) (i + 1) := by
  refine ⟨by rw [Array.size_push, x.1], fun j u hj => ?_⟩
  rw [Array.getElem?_push] at hj
  split at hj
  · rename_i e; rw [x.1] at e; cases hj; rw [e]; exact ⟨h₁, h, hF, hS, hk, fun _ _ _ e => e⟩
  · exact x.2 j u hj
section
variable {prog : Program} {w : World} {A : Around} {R : Result → Shared → Prop} {I : Addr} {fp wr : List Addr} {G : Array GenState → Array GenState → Prop} {n : Nat} {FH : Nat → Value → Heap → Heap → Prop} {St : Nat → Shared → Prop}
theorem vext_loop (W : WalksV prog w A.in1 I fp wr G n FH St) (hn : n ≤ sizeLine) (S : Addr) (hSf : S ∉ fp) (res : Value) (hs : Heap) :
    ∀ (k i : Nat) (s : Shared) (acc : Array Value) (c : Nat), n - i = k → i ≤ n → St i s → s.heap.get? S = some { cls := .type "list", dict := none, data := .seq acc c, slots := #[] } → RecV FH S wr hs s.heap acc i → (∀ b o, b ∉ S :: wr → hs.get? b = some o → s.heap.get? b = some o) →
    (∀ s' acc' c', Moved (S :: wr) G s s' → s'.heap.get? S = some { cls := .type "list", dict := none, data := .seq acc' c', slots := #[] } → RecV FH S wr hs s'.heap acc' n → R (.ok (.ret res)) s') →
    codeAny (model prog w) A (.builtin "list.extend.loop" ⟨[.ref S, .ref I, res], []⟩) R s := by
  have hSw : S ∉ wr := fun h => hSf (W.sub _ h)
  have hsub : ∀ b ∈ wr, b ∈ S :: wr := fun b hb => List.mem_cons_of_mem _ hb
  intro k
  induction k with
  | zero =>
    intro i s acc c hk hi hst hS hacc hup hR
    have hin : i = n := by omega
    subst hin
    refine codeAny_builtin F.entry_extend_loop ?_
    rw [Around.under_plainId F.plain_extend_loop _]
    show wpAny _ A.in1 (pyNext (.ref I) >>= _) _ _ s
    refine wpAny_bind (W.done s _ _ hst fun s' hm => ?_)
    exact wpAny_pure (hR s' acc c (hm.mono hsub) (hm.heap S _ hSw hS) (hacc.up fun b o hb e => hm.heap b o (fun h9 => hb (hsub b h9)) e))
  | succ k ih =>
    intro i s acc c hk hi hst hS hacc hup hR
    have hlt : i < n := by omega
    refine codeAny_builtin F.entry_extend_loop ?_
    rw [Around.under_plainId F.plain_extend_loop _]
    show wpAny _ A.in1 (pyNext (.ref I) >>= _) _ _ s
    refine wpAny_bind (W.item i s _ _ hlt hst fun v s' hP hst' hm => ?_)
    have hS' := hm.heap S _ hSw hS
    have mv : ∀ b o, b ∉ S :: wr → s.heap.get? b = some o → s'.heap.get? b = some o := fun b o hb e => hm.heap b o (fun h9 => hb (hsub b h9)) e
    have acc2 := (hacc.up mv).push hP ⟨_, hS⟩ hup
    show wpAny _ A.in1 (updateSeq S (·.push v) >>= _) _ _ _
    refine wpAny_bind ?_
    have oth : ∀ b o, b ∉ S :: wr → s'.heap.get? b = some o → (s'.heap.update S (Obj.mapSeq (·.push v))).get? b = some o := fun b o hb e => (Heap.get?_update_other _ _ (fun h : S = b => hb (h ▸ List.mem_cons_self))).trans e
    refine wpAny_updateSeq hS' rfl (wpAny_pure ⟨plainId_quiet F.plain_extend_loop _, ih (i + 1) _ (acc.push v) _ (by omega) hlt (W.frame _ s' _ s'.toks hst' (Nat.le_refl _) fun b hb o e => ?_) (Heap.get?_update_self _ hS' rfl) (acc2.up oth) (fun b o hb e => oth b o hb (mv b o hb (hup b o hb e))) fun s'' acc' c' hm'' hS'' hacc' => ?_⟩)
      (by rw [hacc.1]; omega) (by show (acc.push v).size ≤ sizeLine + 1; rw [Array.size_push, hacc.1]; omega)
    · exact (Heap.get?_update_other _ _ (fun h : S = b => hSf (by rw [h]; exact hb))).trans e
    · refine hR s'' acc' c' (Moved.trans W.gtrans ((hm.mono hsub).then_heap (by first | exact Nat.le_refl _ | exact Nat.le_succ _ | omega) fun b o hb e => ?_) hm'') hS'' hacc'
      exact (Heap.get?_update_other _ _ (fun h : S = b => hb (by rw [h]; exact List.mem_cons_self))).trans e
end
section
variable {prog : Program} {w : World} {A : Around} {E : Value → Shared → Prop} {s : Shared} {I : Addr} {fp wr : List Addr} {G : Array GenState → Array GenState → Prop} {n : Nat} {FH : Nat → Value → Heap → Heap → Prop} {St : Nat → Shared → Prop}
noncomputable def CollV (FH : Nat → Value → Heap → Heap → Prop) (wr : List Addr) (G : Array GenState → Array GenState → Prop) (n : Nat) (s s' : Shared) (acc : Array Value) : Prop :=
  Moved wr G s s' ∧ ∃ S, s.heap.get? S = none ∧ (∀ b o, s.heap.get? b = some o → b ≠ S) ∧ RecV FH S wr s.heap s'.heap acc n
theorem collect_V {Q : List Value → Shared → Prop} (W : WalksV prog w A.in1 I fp wr G n FH St) (hT : ∀ i s, St i s → s.TypeIs (.ref I) "generator") (hst : St 0 s) (hfp : ∀ b ∈ fp, b < s.heap.objs.size) (hI : I ∈ fp)
    (hQ : ∀ s' acc, CollV FH wr G n s s' acc → Q acc.toList s') (hn : n ≤ sizeLine) : wpAny (model prog w) A (collect (.ref I)) Q E s := by
  have hSf : s.heap.objs.size ∉ fp := fun hm => Nat.lt_irrefl _ (hfp _ hm)
  have hSI : s.heap.objs.size ≠ I := fun e => hSf (e ▸ hI)
  unfold collect
  refine wpAny_bind (wpAny_runValue (codeAny_builtin F.entry_proto_collect ?_))
  rw [Around.under_plainId F.plain_proto_collect _]
  show wpAny _ A.in1 (newList [] >>= fun l => again (.builtin "list.__iadd__" ⟨[l, .ref I], []⟩)) _ _ s
  refine wpAny_bind (wpAny_newObj_type ?_)
  refine wpAny_pure ⟨plainId_quiet F.plain_list_iadd _, codeAny_builtin F.entry_list_iadd ?_⟩
  rw [Around.under_plainId F.plain_list_iadd _]
  have hst₁ := W.frame 0 s (s.heap.push { cls := .type "list", data := .seq ([] : List Value).toArray }) s.toks hst (Nat.le_refl _) fun b _ o e => Heap.get?_push_of_some _ e
  show wpAny _ A.in1 (Builtin.List.listExtendWith (.ref s.heap.objs.size) (.ref I) (.ref s.heap.objs.size)) _ _ _
  unfold Builtin.List.listExtendWith
  refine wpAny_bind (wpAny_typeOf (hT 0 _ hst₁) ?_)
  have h1 : Builtin.List.listSameRef (.ref s.heap.objs.size) (.ref I) = false := by simp [Builtin.List.listSameRef, hSI]
  have h2 : (Value.type "generator" == Value.type "list") = false := by decide
  have h3 : (Value.type "generator" == Value.type "tuple") = false := by decide
  simp only [h1, h2, h3, Bool.or_false, Bool.false_eq_true, if_false]
  refine wpAny_bind (W.self 0 _ _ _ hst₁ ?_)
  refine wpAny_bind (wpAny_holding ?_)
  unfold Builtin.List.listLengthHint
  refine wpAny_bind (wpAny_specialOf (hT 0 _ hst₁) F.gen_no_len ?_)
  show wpAny _ A.in1 (specialOf (Value.ref I) (Str.ofString "__length_hint__") >>= _) _ _ _
  refine wpAny_bind (wpAny_specialOf (hT 0 _ hst₁) F.gen_no_hint ?_)
  refine wpAny_pure ?_
  show wpAny _ A.in1 (rule "list.extend.makes-room" >>= fun _ => Builtin.List.listTouch (.ref s.heap.objs.size) >>= fun _ =>
    again (.builtin "list.extend.loop" ⟨[.ref s.heap.objs.size, .ref I, .ref s.heap.objs.size], []⟩)) _ _ _
  refine wpAny_bind (wpAny_rule ?_)
  have hS₁ : (s.heap.push { cls := .type "list", data := .seq ([] : List Value).toArray }).get? s.heap.objs.size = some { cls := .type "list", data := .seq ([] : List Value).toArray } := Heap.get?_push_size _ rfl
  refine wpAny_bind ?_
  show wpAny _ A.in1 (updateSeq s.heap.objs.size (·.push .none) >>= fun _ => updateSeq s.heap.objs.size (·.pop)) _ _ _
  refine wpAny_bind (wpAny_updateSeq hS₁ rfl ?_)
  have hS₂ := Heap.get?_update_self (Obj.mapSeq (·.push Value.none)) hS₁ rfl
  refine wpAny_updateSeq hS₂ rfl ?_
  have hS₃ := Heap.get?_update_self (Obj.mapSeq (·.pop)) hS₂ rfl
  have oth : ∀ b o, b ≠ s.heap.objs.size → (s.heap.push { cls := .type "list", data := .seq ([] : List Value).toArray }).get? b = some o →
      (((s.heap.push { cls := .type "list", data := .seq ([] : List Value).toArray }).update s.heap.objs.size (Obj.mapSeq (·.push Value.none))).update s.heap.objs.size (Obj.mapSeq (·.pop))).get? b = some o :=
    fun b o hb e => (Heap.get?_update_other _ _ (Ne.symm hb)).trans ((Heap.get?_update_other _ _ (Ne.symm hb)).trans e)
  refine wpAny_pure ⟨plainId_quiet F.plain_extend_loop _, vext_loop W hn _ hSf _ s.heap n 0 _ _ _ rfl (Nat.zero_le _)
    (W.frame 0 ({ s with heap := s.heap.push { cls := .type "list", data := .seq ([] : List Value).toArray } } : Shared) _ s.toks hst₁ (Nat.le_refl _) fun b hb o e => oth b o (fun h => hSf (h ▸ hb)) e) hS₃ (RecV.nil _ _ _ _ _) (fun b o hb e => oth b o (fun h => hb (h ▸ List.mem_cons_self)) (Heap.get?_push_of_some _ e)) fun s' acc' c' hm hS' hacc => ?_⟩
  show wpAny _ A (load s.heap.objs.size >>= _) _ _ s'
  refine wpAny_bind (wpAny_load hS' ?_)
  have hno : s.heap.get? s.heap.objs.size = none := by
    cases e : s.heap.get? s.heap.objs.size with
    | none => rfl
    | some o => exact absurd (Heap.lt_size e) (Nat.lt_irrefl _)
  refine wpAny_pure (hQ s' acc' ⟨Moved.drop_new (o := { cls := .type "list", data := .seq ([] : List Value).toArray }) (tk := s.toks) (Moved.trans W.gtrans ((Moved.refl W.grefl).then_heap (by first | exact Nat.le_refl _ | exact Nat.le_succ _ | omega) fun b o hb e => ?_) hm) (Nat.le_refl _), _, hno, fun b o e q => ?_, hacc⟩)
  · exact oth b o (fun h => hb (h ▸ List.mem_cons_self)) e
  · rw [q, hno] at e; cases e
theorem code_tuple_V {Q₁ : Value → Shared → Prop} (W : WalksV prog w A.in1.in1 I fp wr G n FH St) (hT : ∀ i s, St i s → s.TypeIs (.ref I) "generator") (hst : St 0 s) (hfp : ∀ b ∈ fp, b < s.heap.objs.size) (hI : I ∈ fp)
    (h : ∀ s' acc, CollV FH wr G n s s' acc → Q₁ (.ref s'.heap.objs.size) { s' with heap := s'.heap.push { cls := .type "tuple", data := .seq acc } }) (hsz : n ≤ sizeLine) :
    codeAny (model prog w) A (.call (.builtin "tuple.__new__") ⟨[.type "tuple", .ref I], []⟩) (wants Q₁ E) s := by
  refine codeAny_of_tree ?_
  show wpAny _ A.in1 (do checkBuiltinCall "tuple.__new__" ⟨[.type "tuple", .ref I], []⟩; again (.builtin "tuple.__new__" ⟨[.type "tuple", .ref I], []⟩)) _ _ s
  refine wpAny_bind (wpAny_of_eq (F.newCall_tuple_1 _) (wpAny_pure ⟨plainId_quiet F.plain_tuple_new _, codeAny_builtin F.entry_tuple_new ?_⟩))
  rw [Around.under_plainId F.plain_tuple_new _]
  have hsub := sub_tuple_self
  have hinit := init_tuple_lookup
  have hmh := madeHere_tuple
  have hTI := hT 0 s hst
  repeat (first | with_reducible refine wpAny_typeOf hTI ?_ | with_reducible refine collect_V (hn := hsz) W hT hst hfp hI ?_ | with_reducible refine wpAny_pure ?_ | with_reducible refine wpAny_bind ?_ | with_reducible refine wpAny_holding ?_ | with_reducible refine wpAny_standAt ?_ | with_reducible refine wpAny_point ?_ | with_reducible refine wpAny_rule ?_ | with_reducible refine wpAny_of_eq (by assumption) ?_ | with_reducible refine wpAny_specialOf_val (by assumption) (by assumption) ?_ | with_reducible refine wpAny_isInstance_val (by assumption) (by assumption) ?_ | wp_delta | ((with_reducible refine wpAny_ite_false ?_ ?_); focus (rfl; done)) | ((with_reducible refine wpAny_ite_true ?_ ?_); focus (rfl; done)) | ((with_reducible refine wpAny_ite_false ?_ ?_); focus (simp [*]; done)) | ((with_reducible refine wpAny_ite_true ?_ ?_); focus (simp [*]; done)) | wp_step)
  intro s' acc hm
  show wpAny _ _ (Builtin.Tuple.tupleExact acc.toList.toArray >>= fun v => ret v) _ _ _
  unfold Builtin.Tuple.tupleExact
  refine wpAny_bind (wpAny_newObj_type ?_ (by show acc.toList.toArray.size ≤ sizeLine; simp only [Array.toArray_toList]; rw [hm.2.choose_spec.2.2.1]; exact hsz))
  refine wpAny_pure ?_
  have e : acc.toList.toArray = acc := by simp
  rw [e]
  exact h s' acc hm
theorem call_tuple_V {Q : Value → Shared → Prop} (W : WalksV prog w A.in1.in1.in1 I fp wr G n FH St) (hT : ∀ i s, St i s → s.TypeIs (.ref I) "generator") (hst : St 0 s) (hfp : ∀ b ∈ fp, b < s.heap.objs.size) (hI : I ∈ fp)
    (hQ : ∀ s' acc, CollV FH wr G n s s' acc → Q (.ref s'.heap.objs.size) { s' with heap := s'.heap.push { cls := .type "tuple", data := .seq acc } }) (hsz : n ≤ sizeLine) :
    wpAny (model prog w) A (call (.type "tuple") [.ref I]) Q E s := by
  refine callType_codes (Q₁ := fun obj s₁ => s₁.TypeIs obj "tuple" ∧ Q obj s₁) F.called_tuple (F.typeCall_tuple_1 _) F.entry_object_init
    (code_tuple_V (hsz := hsz) W hT hst hfp hI fun s' acc hm => ⟨⟨_, Heap.get?_push_size _ rfl, rfl⟩, hQ s' acc hm⟩) fun obj s₁ h₁ => ?_
  exact ⟨h₁.1, F.args_object_init_2 obj _, object_init_meets F.called_tuple.init.lookup F.called_tuple.made (by decide) prog w A.in1 _ s₁ ⟨h₁.1, rfl, h₁.2⟩⟩
end

-- piece fgen
noncomputable def FqL (P : Params) (p : Int) (objs : List (Addr × Obj)) (vs : List Value) (ns : List Int) : Prop :=
  vs.length = ns.length ∧ ∀ (i : Nat) (n : Int), ns[i]? = some n → ∃ a d t1 t2 t3 t4, vs[i]? = some (.ref a) ∧ (a, instObj 254 d) ∈ objs ∧ (d, fqD P p n t1 t2 t3 t4) ∈ objs
theorem FqL.mono {P : Params} {p : Int} {objs objs' : List (Addr × Obj)} {vs : List Value} {ns : List Int} (h : FqL P p objs vs ns) (k : ∀ q ∈ objs, q ∈ objs') : FqL P p objs' vs ns :=
  ⟨h.1, fun i n e => let ⟨a, d, t1, t2, t3, t4, h1, h2, h3⟩ := h.2 i n e; ⟨a, d, t1, t2, t3, t4, h1, k _ h2, k _ h3⟩⟩
theorem FqL.nil (P : Params) (p : Int) (objs : List (Addr × Obj)) : FqL P p objs [] [] := ⟨rfl, fun _ _ h => by simp at h⟩
theorem FqL.app {P : Params} {p : Int} {objs : List (Addr × Obj)} {vs : List Value} {ns : List Int} {a d : Addr} {n : Int} {t1 t2 t3 t4 : Tok} (h : FqL P p objs vs ns) :
    FqL P p ((a, instObj 254 d) :: (d, fqD P p n t1 t2 t3 t4) :: objs) (vs ++ [.ref a]) (ns ++ [n]) := by
  refine ⟨by simp [h.1], fun i m hm => ?_⟩
  rcases Nat.lt_or_ge i ns.length with hi | hi
  · rw [List.getElem?_append_left hi] at hm
    obtain ⟨a', d', s1, s2, s3, s4, h1, h2, h3⟩ := h.2 i m hm
    exact ⟨a', d', s1, s2, s3, s4, by rw [List.getElem?_append_left (by rw [h.1]; exact hi)]; exact h1, .tail _ (.tail _ h2), .tail _ (.tail _ h3)⟩
  · rw [List.getElem?_append_right hi] at hm
    have : i = ns.length := by
      rcases Nat.lt_or_ge (i - ns.length) 1 with h1 | h1
      · omega
      · rw [List.getElem?_eq_none (by simpa using h1)] at hm; cases hm
    subst this
    have e : n = m := by simpa using hm
    subst e
    exact ⟨a, d, t1, t2, t3, t4, by rw [← h.1]; simp, .head _, .tail _ (.head _)⟩
noncomputable def ledOf (g : Heap) (C : Addr) (h : Heap) : List (Addr × Obj) :=
  (List.range h.objs.size).filterMap fun b => if b = C then none else if (g.get? b).isSome then none else (h.get? b).map fun o => (b, o)
theorem mem_ledOf {g h : Heap} {C b : Addr} {o : Obj} : (b, o) ∈ ledOf g C h ↔ h.get? b = some o ∧ b ≠ C ∧ g.get? b = none := by
  unfold ledOf
  rw [List.mem_filterMap]
  constructor
  · rintro ⟨b', _, e⟩
    by_cases h1 : b' = C
    · rw [if_pos h1] at e; cases e
    · rw [if_neg h1] at e
      cases hg : g.get? b' with
      | some x => rw [hg] at e; simp at e
      | none =>
        rw [hg] at e
        simp only [Option.isSome_none, Bool.false_eq_true, if_false, Option.map_eq_some_iff] at e
        obtain ⟨o', e1, e2⟩ := e
        cases e2
        exact ⟨e1, h1, hg⟩
  · rintro ⟨e, h1, hg⟩
    exact ⟨b, List.mem_range.mpr (Heap.lt_size e), by rw [if_neg h1, hg, e]; rfl⟩
theorem led_news {g h : Heap} {C : Addr} : News g C h (ledOf g C h) := fun p hp => mem_ledOf.mp (show (p.1, p.2) ∈ _ from hp)
/-- what an element's evaluation gives back -/
inductive EltPost (P : Params) (p : Int) (n : Int) (g : Heap) (C : Addr) (m : Str → Option Value) (led : List (Addr × Obj)) (s : Shared) (y : Value) (s' : Shared) : Prop
  | mk : ∀ a d t1 t2 t3 t4 h' tk, (y = .ref a) → (s' = { s with heap := h', toks := tk }) → (Fr g C h' m) → (News g C h' ((a, instObj 254 d) :: (d, fqD P p n t1 t2 t3 t4) :: led)) → ((∀ q ∈ led, q.1 < d)) → (@LT.lt Nat _ d a) → EltPost P p n g C m led s y s'
inductive FHf (P : Params) (p : Int) (f : Nat → Int) (C I : Addr) (i : Nat) (v : Value) (h₁ h₂ : Heap) : Prop
  | mk : ∀ a d t1 t2 t3 t4, (v = .ref a) → (h₂.get? a = some (instObj 254 d)) → (h₂.get? d = some (fqD P p (f i) t1 t2 t3 t4)) → (a ≠ C) → (a ≠ I) → (d ≠ C) → (d ≠ I) → (h₁.get? a = none) → (h₁.get? d = none) → FHf P p f C I i v h₁ h₂
theorem elt_V {P : Params} {p : Int} {f : Nat → Int} {g : Heap} {C I : Addr} {m : Str → Option Value} {s₀ s₂ s₃ : Shared} {i : Nat} {y : Value} {oI : Obj} (hkg : ∀ b o, g.get? b = some o → s₂.heap.get? b = some o) (hI : s₂.heap.get? I = some oI) (hIC : I ≠ C) (hIg : g.get? I = none)
    (hs : GenSince C [I] s₀ s₂) (h : EltPost P p (f i) g C m (ledOf g C s₂.heap) s₂ y s₃) : FHf P p f C I i y s₀.heap s₃.heap ∧ KeepB C m s₂ s₃ := by
  obtain ⟨a, d, t1, t2, t3, t4, h', tk, rfl, rfl, F, N, hd, hda⟩ := h
  have hId : I < d := hd (I, oI) (mem_ledOf.mpr ⟨hI, hIC, hIg⟩)
  have na := N _ (.head _)
  have nd := N _ (.tail _ (.head _))
  have fresh : ∀ b, b ≠ C → b ≠ I → g.get? b = none → @LE.le Nat _ d b → s₀.heap.get? b = none := by
    intro b hbC hbI hbg hdb
    cases e : s₀.heap.get? b with
    | none => rfl
    | some o =>
      obtain ⟨h9, t9, e9, k9⟩ := hs
      have e2 : s₂.heap.get? b = some o := by rw [e9]; exact k9 b o hbC (fun q => hbI (List.mem_singleton.mp q)) e
      exact absurd (hd (b, o) (mem_ledOf.mpr ⟨e2, hbC, hbg⟩)) (Nat.not_lt.mpr hdb)
  have hdI : d ≠ I := Ne.symm (Nat.ne_of_lt hId)
  have haI : a ≠ I := Ne.symm (Nat.ne_of_lt (Nat.lt_trans hId hda))
  refine ⟨⟨a, d, t1, t2, t3, t4, rfl, na.1, nd.1, na.2.1, haI, nd.2.1, hdI, fresh a na.2.1 haI na.2.2 (Nat.le_of_lt hda), fresh d nd.2.1 hdI nd.2.2 (Nat.le_refl _)⟩, h', tk, rfl, fun b o hbC e => ?_, F.ns⟩
  cases hg : g.get? b with
  | some o' =>
    have e1 := F.keep b o' hg
    have e2 := hkg b o' hg
    rw [e] at e2
    cases e2
    exact e1
  | none => exact (N (b, o) (.tail _ (.tail _ (mem_ledOf.mpr ⟨e, hbC, hg⟩)))).1
theorem objs_of {P : Params} {p : Int} {f : Nat → Int} {h : Heap} {Z : Addr → Prop} {acc : Array Value} :
    ∀ n, (∀ j, j < n → ∃ a d t1 t2 t3 t4, acc[j]? = some (.ref a) ∧ h.get? a = some (instObj 254 d) ∧ h.get? d = some (fqD P p (f j) t1 t2 t3 t4) ∧ Z a ∧ Z d) →
      ∃ objs, FqL P p objs (acc.toList.take n) ((List.range n).map f) ∧ ∀ q ∈ objs, h.get? q.1 = some q.2 ∧ Z q.1
  | 0, _ => ⟨[], by rw [List.take_zero]; exact FqL.nil _ _ _, fun _ h => nomatch h⟩
  | n + 1, H => by
    obtain ⟨objs, h1, h2⟩ := objs_of n fun j hj => H j (Nat.lt_succ_of_lt hj)
    obtain ⟨a, d, t1, t2, t3, t4, e, ha, hd, za, zd⟩ := H n (Nat.lt_succ_self n)
    refine ⟨(a, instObj 254 d) :: (d, fqD P p (f n) t1 t2 t3 t4) :: objs, ?_, List.forall_mem_cons.mpr ⟨⟨ha, za⟩, List.forall_mem_cons.mpr ⟨⟨hd, zd⟩, h2⟩⟩⟩
    have et : acc.toList.take (n + 1) = acc.toList.take n ++ [.ref a] := by
      rw [List.take_add_one, Array.getElem?_toList, e]
      rfl
    rw [et, List.range_succ, List.map_append, List.map_singleton]
    exact FqL.app h1
noncomputable def GenT (prog : Program) (w : World) (A : Around) (P : Params) (p : Int) (h₀ : Heap) (L : Addr) (m : Str → Option Value) (led : List (Addr × Obj)) (ns : List Int) (a : Addr) (s₅ : Shared) : Prop :=
  ∀ (Q E : Value → Shared → Prop), (∀ D vs objs h' tk gn, FqL P p objs vs ns → Fr h₀ L h' m → News h₀ L h' ((D, ({ cls := .type "tuple", data := .seq vs.toArray } : Obj)) :: (objs ++ led)) → (∀ q ∈ objs, ∀ r ∈ led, q.1 ≠ r.1) → (∀ r ∈ objs ++ led, r.1 < D) → (AllBare s₅.gens → AllBare gn) → Q (.ref D) { s₅ with heap := h', toks := tk, gens := gn }) →
    wpAny (model prog w) A (call (.type "tuple") [.ref a]) Q E s₅
section
variable {prog : Program} {w : World} {A A₀ : Around} {E : Value → Shared → Prop} {s : Shared} {K : Frag} {h₀ base : Heap} {L c T : Addr} {m mg mb : Str → Option Value} {news : List (Addr × Obj)} {p : Program} {loose : List Str} {mean : ExcName → Option Value} {env : Env} {outer : List Env}
inductive IterPost (h₀ : Heap) (L : Addr) (m : Str → Option Value) (led : List (Addr × Obj)) (s : Shared) (l : Addr) (xv : Value) (s₁ : Shared) : Prop
  | mk : ∀ h tk, (xv = .ref l) → (s₁ = { s with heap := h, toks := tk }) → (Fr h₀ L h m) → (News h₀ L h led) → IterPost h₀ L m led s l xv s₁
theorem fgen_tail {elt iter : PySem.Expr} {x : Str} {px : Pos} {scope : Scope} {cl : List (Str × Addr)} {pos : Pos} {ps : Array Value} {Q : Value → Shared → Prop} {l : Addr} {its : Array Value} {pm : Int} {f : Nat → Int} {hp : Heap} {tk : Nat} {oI : Obj} {St₀ : Nat → Heap → Prop}
    (F : Fr h₀ L hp m) (N : News h₀ L hp ((T, tabObj ps) :: news)) (tp : Top p loose mean mg mb h₀) (B : Below A₀ base outer h₀) (hA : A.frames = some (env :: outer)) (hf : env.frame = some L) (hke : env.scope.kind = .function) (X : K.In h₀)
    (hge : env.globals = mainGlobals) (hC : CodeHd h₀ c T) (ht : TabX pos ps) (hcode : env.code = .ref c) (hne : ∀ p ∈ news, p.1 ≠ T)
    (hh : A.handled = none) (hroom : A.depth < recursionLimit) (hz : its.size ≤ 16384)
    (W : ∀ A' : Around, A'.handled = none → Walks prog w A' hp.objs.size [hp.objs.size, l] [hp.objs.size] its.size (fun i v => its[i]? = some v) St₀) (hwr : ∀ i h, St₀ i h → ∀ b ∈ [hp.objs.size], ∃ o, h.get? b = some o)
    (hst : ∀ h₃ : Heap, (∀ b o, b ≠ T → (hp.push oI).get? b = some o → h₃.get? b = some o) → St₀ 0 h₃) (hll : l < hp.objs.size)
    (helt : ∀ (I C bi : Addr) (code : Value) (g : Heap) (i : Nat) (v : Value) (s₂ : Shared) (m₂ : Str → Option Value) (led : List (Addr × Obj)) (ps' : Array Value) (E' : Value → Shared → Prop), its[i]? = some v → m₂ x = some v → Fr g C s₂.heap m₂ → News g C s₂.heap led → (∀ q ∈ news, q ∈ led) → (T, tabObj ps') ∈ led →
      Below A base (env :: outer) g → K.In g → Top p loose mean mg mb g → 
      wpAny (model prog w) (A.in4.in1.over (.compLoop (.GeneratorExp elt [⟨.Name x px, iter, [], 0⟩] scope pos) 0 (.ref I) .none (genEnv scope cl C code bi env)) []) (eval elt (genEnv scope cl C code bi env)) (EltPost w.params pm (f i) g C m₂ led s₂) E' s₂)
    (hQ : ∀ a ps' h tk gs, gs.bare = true → TabX pos ps' → Fr h₀ L h m → News h₀ L h ((T, tabObj ps') :: news) → GenT prog w A w.params pm h₀ L m ((T, tabObj ps') :: news) ((List.range its.size).map f) a { s with heap := h, toks := tk, gens := s.gens.push gs } → Q (.ref a) { s with heap := h, toks := tk, gens := s.gens.push gs }) :
    (hp.push oI).NoLimit ∧ wpAny (model prog w) A (genexprCode env pos (env.qual ++ "<genexpr>") scope) (fun code s₃ => wpAny (model prog w) A (builtinsFor env.globals env.builtins) (fun bi s₄ =>
        ∃ I fp wr n₀ P St₀ FH, Value.ref hp.objs.size = .ref I ∧ (∀ A' : Around, A'.handled = none → Walks prog w A' I fp wr n₀ P St₀) ∧ (∀ i h, St₀ i h → ∀ b ∈ wr, ∃ o, h.get? b = some o) ∧ St₀ 0 s₄.heap ∧ (∀ b ∈ fp, b < s₄.heap.objs.size) ∧ s₄.heap.NoLimit ∧ cStatics ∉ wr ∧
          (∀ href : Heap, (∀ b o, s₄.heap.get? b = some o → href.get? b = some o) →
            VElt prog w (A.in4.in1.over (.compLoop (.GeneratorExp elt [⟨.Name x px, iter, [], 0⟩] scope pos) 0 (.ref I) .none (genEnv scope cl s₄.heap.objs.size code bi env)) []) (genEnv scope cl s₄.heap.objs.size code bi env) x elt (List.range s₄.heap.objs.size) wr n₀ P FH href) ∧
          (∀ a h₅ tk gs, gs.bare = true → s₄.heap.objs.size < a → h₅.objs.size = a + 1 → (∀ b o, s₄.heap.get? b = some o → h₅.get? b = some o) → a ∉ List.range s₄.heap.objs.size → (∀ b ∈ wr, b ∈ List.range s₄.heap.objs.size) → cStatics ∈ List.range s₄.heap.objs.size → cStatics ≠ s₄.heap.objs.size → (∃ o, h₅.get? s₄.heap.objs.size = some o) →
            GenAtV prog w A.in4 a s₄.gens.size s₄.heap.objs.size (List.range s₄.heap.objs.size) wr n₀ FH 0 { s₄ with gens := s₄.gens.push gs, toks := tk, heap := h₅ } →
            Q (.ref a) { s₄ with gens := s₄.gens.push gs, toks := tk, heap := h₅ })) E s₃) E { s with heap := hp.push oI, toks := tk } := by
  obtain ⟨FG, BG, st, _⟩ := groundX (R := fun _ _ => True) (s := { s with heap := hp, toks := tk }) B F N hA hf hke
  generalize hg : hideAll hp (((T, tabObj ps) :: news).map (·.1)) = g at FG BG st
  have gsz : g.objs.size = hp.objs.size := hg ▸ hideAll_size _ _
  have gof : ∀ b o, g.get? b = some o → hp.get? b = some o := fun b o e => of_hideAll _ (hg ▸ e)
  have gno : ∀ q ∈ (T, tabObj ps) :: news, g.get? q.1 = none := fun q hq => hg ▸ hideAll_none _ (List.mem_map_of_mem hq)
  have ltI : ∀ q ∈ (T, tabObj ps) :: news, q.1 < hp.objs.size := fun q hq => Heap.lt_size (N q hq).1
  have hTI : T < hp.objs.size := ltI _ (.head _)
  have gI : ∀ b, hp.objs.size ≤ b → g.get? b = none := fun b hb => Heap.get?_none_of_le (gsz ▸ hb)
  have h0I : ∀ b, hp.objs.size ≤ b → h₀.get? b = none := fun b hb => Heap.get?_none_of_le (Nat.le_trans F.above (Nat.le_trans (Nat.le_of_lt F.ns.lt) hb))
  have hLI : L < hp.objs.size := F.ns.lt
  have F1 : Fr h₀ L (hp.push oI) m := F.push _
  have N1 : News h₀ L (hp.push oI) ((T, tabObj ps) :: news) := fun q hq => ⟨Heap.get?_push_of_some _ (N q hq).1, (N q hq).2⟩
  refine ⟨tp.nolimit.keeps F1.keep, ?_⟩
  refine gcode_K (s := { s with heap := hp.push oI, toks := tk }) F1 N1 hne hC ht hcode fun cv ps' h₃ tk₃ ht' hx₃ hsz F₃ N₃ => ?_
  obtain ⟨bm, ob, b1, b2, b3, b4, b5, b6⟩ := tp.bmain
  refine wpAny_builtinsFor (hge ▸ tp.g.keeps F₃.keep) b1 b2 (F₃.keep _ _ b3) b4 b5 b6 ?_
  have hIC : hp.objs.size < h₃.objs.size := by
    refine Nat.lt_of_lt_of_le ?_ hsz
    show hp.objs.size < (hp.push oI).objs.size
    rw [Heap.size_push]; exact Nat.lt_succ_self _
  have hcs : cStatics < hp.objs.size := by
    obtain ⟨_, hns, _⟩ := tp.nolimit.keeps F.keep
    exact hns.lt
  have up3 : ∀ b o, b ≠ T → hp.get? b = some o → h₃.get? b = some o := fun b o hb e => hx₃ b o hb (Heap.get?_push_of_some _ e)
  have gT : ∀ b o, g.get? b = some o → b ≠ T := fun b o e q => by rw [q, gno _ (.head _)] at e; cases e
  refine ⟨hp.objs.size, [hp.objs.size, l], [hp.objs.size], its.size, (fun i v => its[i]? = some v), St₀, FHf w.params pm f h₃.objs.size hp.objs.size, rfl, W, hwr, hst h₃ fun b o hb e => hx₃ b o hb e, ?_, tp.nolimit.keeps F₃.keep, ?_, ?_, ?_⟩
  · intro b hb
    show b < h₃.objs.size
    rcases List.mem_cons.mp hb with rfl | hb
    · exact hIC
    · rw [List.mem_singleton.mp hb]; exact Nat.lt_trans hll hIC
  · intro hm
    rw [List.mem_singleton.mp hm] at hcs
    exact Nat.lt_irrefl _ hcs
  · intro href hk E' i v s₀ s₂ m₂ hi hP hns hm₂ hag hsince hex
    obtain ⟨oI', eI⟩ := hex _ (.head _)
    have ag : ∀ b o, b ≠ hp.objs.size → h₃.get? b = some o → s₂.heap.get? b = some o := fun b o hb e => hag b (List.mem_range.mpr (Heap.lt_size e)) (fun q => hb (List.mem_singleton.mp q)) o (hk b o e)
    have kg : ∀ b o, g.get? b = some o → s₂.heap.get? b = some o := fun b o e => ag b o (fun q => by rw [q, gI _ (Nat.le_refl _)] at e; cases e) (up3 b o (gT b o e) (gof b o e))
    have Fc : Fr g h₃.objs.size s₂.heap m₂ := ⟨hns, kg, by rw [gsz]; exact Nat.le_of_lt hIC⟩
    have ml : ∀ q ∈ (T, tabObj ps') :: news, q ∈ ledOf g h₃.objs.size s₂.heap := by
      intro q hq
      have e3 := (N₃ q hq).1
      have lt3 : q.1 < hp.objs.size := by
        rcases List.mem_cons.mp hq with rfl | hq
        · exact hTI
        · exact ltI _ (.tail _ hq)
      refine mem_ledOf.mpr ⟨ag q.1 q.2 (Nat.ne_of_lt lt3) e3, Nat.ne_of_lt (Nat.lt_trans lt3 hIC), ?_⟩
      rcases List.mem_cons.mp hq with rfl | hq
      · exact gno (T, tabObj ps) (.head _)
      · exact gno _ (.tail _ hq)
    refine wpAny_mono (helt hp.objs.size h₃.objs.size _ cv g i v s₂ m₂ (ledOf g h₃.objs.size s₂.heap) ps' E' hP hm₂ Fc led_news (fun q hq => ml q (.tail _ hq)) (ml _ (.head _)) BG (X.keeps st) (tp.keeps st)) (fun y s₃ h3 => ?_) fun _ _ e => e
    exact elt_V kg eI (Nat.ne_of_lt hIC) (gI _ (Nat.le_refl _)) hsince h3
  · intro a h₅ tk₅ gs hgb hag hsz₅ hk₅ haf hsub hcsr hcsC hCex hat
    have F₅ : Fr h₀ L h₅ m := F₃.keeps hk₅
    have N₅ : News h₀ L h₅ ((T, tabObj ps') :: news) := fun q hq => ⟨hk₅ _ _ (N₃ q hq).1, (N₃ q hq).2⟩
    refine hQ a ps' h₅ tk₅ gs hgb ht' F₅ N₅ fun Q' E' hQ' => ?_
    have haC : a ≠ h₃.objs.size := Ne.symm (Nat.ne_of_lt hag)
    have hcw : cStatics ∉ [hp.objs.size] := fun hm => by rw [List.mem_singleton.mp hm] at hcs; exact Nat.lt_irrefl _ hcs
    refine call_tuple_V (WalksV.of_in1 (A := A.in1.in1.in1) (WalksV.of_gen (A := A.in4) hh haC haf hsub hroom hcsr hcsC hcw)) (fun i s' st' => let ⟨o, nm, qn, e, c9, _⟩ := st'.1; ⟨o, e, c9⟩) hat ?_ (List.mem_cons_self ..) (fun s' acc hm => ?_) (by rw [sizeLine_eq]; omega)
    · intro b hb
      show b < h₅.objs.size
      rw [hsz₅]
      rcases List.mem_cons.mp hb with rfl | hb
      · exact Nat.lt_succ_self _
      · rcases List.mem_cons.mp hb with rfl | hb
        · exact Nat.lt_succ_of_lt hag
        · exact Nat.lt_succ_of_lt (Nat.lt_trans (List.mem_range.mp hb) hag)
    · obtain ⟨mv, S, _, hS2, hr, hrec⟩ := hm
      have low : ∀ b o, b ≠ hp.objs.size → b ≠ h₃.objs.size → h₅.get? b = some o → s'.heap.get? b = some o := fun b o h1 h2 e => mv.heap b o (fun q => by
        rcases List.mem_cons.mp q with q | q
        · exact h2 q
        · exact h1 (List.mem_singleton.mp q)) e
      have lt3 : ∀ q ∈ (T, tabObj ps') :: news, q.1 < hp.objs.size := fun q hq => by
        rcases List.mem_cons.mp hq with rfl | hq
        · exact hTI
        · exact ltI _ (.tail _ hq)
      have lowlt : ∀ b o, b < hp.objs.size → h₅.get? b = some o → s'.heap.get? b = some o := fun b o hb e => low b o (Nat.ne_of_lt hb) (Nat.ne_of_lt (Nat.lt_trans hb hIC)) e
      have F' : Fr h₀ L s'.heap m := ⟨F₅.ns.at' (fun o e => lowlt _ o hLI e), fun b o e => lowlt b o (Nat.lt_of_lt_of_le (Heap.lt_size e) (Nat.le_trans F.above (Nat.le_of_lt hLI))) (F₅.keep b o e), F₅.above⟩
      have N' : News h₀ L s'.heap ((T, tabObj ps') :: news) := fun q hq => ⟨lowlt _ _ (lt3 q hq) (N₅ q hq).1, (N₅ q hq).2⟩
      obtain ⟨objs, hq1, hq2⟩ := objs_of (P := w.params) (p := pm) (f := f) (h := s'.heap) (Z := fun b => ∀ b' o', h₅.get? b' = some o' → b ≠ b') (acc := acc) its.size fun j hj => by
        have hjs : j < acc.size := by rw [hr]; exact hj
        obtain ⟨h1, h2, ⟨a', d', t1, t2, t3, t4, ev, ea, ed, a1, a2, d1, d2, na, nd⟩, ⟨oS, eS⟩, k1, k2⟩ := hrec j acc[j] (by simp [hjs])
        have zz : ∀ b, h1.get? b = none → b ≠ h₃.objs.size → b ≠ hp.objs.size → ∀ b' o', h₅.get? b' = some o' → b ≠ b' := by
          rintro b hb hbC hbI b' o' e rfl
          have hbS : b ≠ S := fun q => by rw [q, eS] at hb; cases hb
          have := k1 b o' (fun q => by
            rcases List.mem_cons.mp q with q | q
            · exact hbS q
            · rcases List.mem_cons.mp q with q | q
              · exact hbC q
              · exact hbI (List.mem_singleton.mp q)) e
          rw [hb] at this; cases this
        have kk : ∀ b o, h1.get? b = none → b ≠ h₃.objs.size → b ≠ hp.objs.size → h2.get? b = some o → s'.heap.get? b = some o := fun b o hb hbC hbI e => k2 b o (fun q => by
            rcases List.mem_cons.mp q with q | q
            · rw [q, eS] at hb; cases hb
            · rcases List.mem_cons.mp q with q | q
              · exact hbC q
              · exact hbI (List.mem_singleton.mp q)) e
        exact ⟨a', d', t1, t2, t3, t4, by rw [← ev]; simp [hjs], kk _ _ na a1 a2 ea, kk _ _ nd d1 d2 ed, zz a' na a1 a2, zz d' nd d1 d2⟩
      have hacc : acc.toList.take its.size = acc.toList := List.take_of_length_le (by rw [Array.length_toList, hr]; exact Nat.le_refl _)
      rw [hacc] at hq1
      have N'' : News h₀ L s'.heap (objs ++ (T, tabObj ps') :: news) := fun q hq => by
        rcases List.mem_append.mp hq with hq | hq
        · obtain ⟨e, z⟩ := hq2 q hq
          refine ⟨e, fun q9 => ?_, ?_⟩
          · obtain ⟨oL, _, _, eL, _⟩ := F₅.ns
            exact z L oL eL q9
          · cases e9 : h₀.get? q.1 with
            | none => rfl
            | some o9 => exact absurd rfl (z q.1 o9 (F₅.keep _ _ e9))
        · exact N' q hq
      have es : s' = { s with heap := s'.heap, toks := s'.toks, gens := s'.gens } := by
        obtain ⟨h9, g9, d9, t9, o9⟩ := s'
        have e1 := mv.drawn
        have e2 := mv.os
        simp only at e1 e2
        subst e1 e2
        rfl
      rw [es]
      have ND := N''.push F' ({ cls := .type "tuple", data := .seq acc } : Obj)
      exact hQ' s'.heap.objs.size acc.toList objs (s'.heap.push { cls := .type "tuple", data := .seq acc }) s'.toks s'.gens hq1 (F'.push _) ND (fun q hq r hr9 => (hq2 q hq).2 r.1 r.2 (N₅ r hr9).1) (fun r hr9 => Heap.lt_size (N'' r hr9).1) fun hb => mv.gens.bare hb
theorem fgen_eval {elt iter : PySem.Expr} {x : Str} {px : Pos} {scope : Scope} {cl : List (Str × Addr)} {pos : Pos} {ps : Array Value} {Q : Value → Shared → Prop} {l : Addr} {its : Array Value} {pm : Int} {f : Nat → Int}
    (_F0 : Fr h₀ L s.heap m) (_N0 : News h₀ L s.heap ((T, tabObj ps) :: news)) (tp : Top p loose mean mg mb h₀) (B : Below A₀ base outer h₀) (hA : A.frames = some (env :: outer)) (hf : env.frame = some L) (hke : env.scope.kind = .function) (X : K.In h₀)
    (hge : env.globals = mainGlobals) (hC : CodeHd h₀ c T) (ht : TabX pos ps) (hcode : env.code = .ref c) (hne : ∀ p ∈ news, p.1 ≠ T)
    (hh : A.handled = none) (hco : scope.isCoroutine = false) (hclos : closureFor scope env = pure cl) (hcell : ∀ y ∈ scope.names, y.2 ≠ .cell) (h0 : scope.names.lookup (".0" : Str) = some NameKind.local)
    (hx : scope.names.lookup x = some .local) (hkind : scope.kind = .function) (hroom : A.depth < recursionLimit) (hz : its.size ≤ 16384) (hlT : l ≠ T)
    (hsrc : ∀ h : Heap, (∀ b o, h₀.get? b = some o → h.get? b = some o) → (∀ q ∈ news, h.get? q.1 = some q.2) → h.IsList l its ∨ h.IsTuple l its)
    (hiter : wpAny (model prog w) A (eval iter env) (IterPost h₀ L m ((T, tabObj ps) :: news) s l) E s)
    (hs : ∀ x, genFold iter env x = pure x)
    (helt : ∀ (I C bi : Addr) (code : Value) (g : Heap) (i : Nat) (v : Value) (s₂ : Shared) (m₂ : Str → Option Value) (led : List (Addr × Obj)) (ps' : Array Value) (E' : Value → Shared → Prop), its[i]? = some v → m₂ x = some v → Fr g C s₂.heap m₂ → News g C s₂.heap led → (∀ q ∈ news, q ∈ led) → (T, tabObj ps') ∈ led →
      Below A base (env :: outer) g → K.In g → Top p loose mean mg mb g → 
      wpAny (model prog w) (A.in4.in1.over (.compLoop (.GeneratorExp elt [⟨.Name x px, iter, [], 0⟩] scope pos) 0 (.ref I) .none (genEnv scope cl C code bi env)) []) (eval elt (genEnv scope cl C code bi env)) (EltPost w.params pm (f i) g C m₂ led s₂) E' s₂)
    (hQ : ∀ a ps' h tk gs, gs.bare = true → TabX pos ps' → Fr h₀ L h m → News h₀ L h ((T, tabObj ps') :: news) → GenT prog w A w.params pm h₀ L m ((T, tabObj ps') :: news) ((List.range its.size).map f) a { s with heap := h, toks := tk, gens := s.gens.push gs } → Q (.ref a) { s with heap := h, toks := tk, gens := s.gens.push gs }) :
    wpAny (model prog w) A (eval (.GeneratorExp elt [⟨.Name x px, iter, [], 0⟩] scope pos) env) Q E s := by
  refine GenExp_V hh hco hclos hcell h0 hx hkind hroom (wpAny_mono hiter (fun xv s₁ h₁ => ?_) fun _ _ e => e) hs
  obtain ⟨hp, tk, rfl, rfl, F, N⟩ := h₁
  rcases hsrc hp F.keep fun q hq => (N q (.tail _ hq)).1 with hl | hl
  · have hll : l < hp.objs.size := by obtain ⟨_, e, _⟩ := hl; exact Heap.lt_size e
    refine wpAny_pyIter_list hl ?_
    refine fgen_tail F N tp B hA hf hke X hge hC ht hcode hne hh hroom hz (fun A' hA' => Walks.list hA' hp.objs.size l (Nat.ne_of_lt hll) its) ?_ ?_ hll helt hQ
    · rintro i h ⟨⟨o, e, _⟩, _⟩ b hb
      rw [List.mem_singleton.mp hb]; exact ⟨o, e⟩
    · intro h₃ k
      refine ⟨⟨_, k _ _ ?_ (Heap.get?_push_size _ rfl), rfl, rfl⟩, ?_⟩
      · exact Ne.symm (Nat.ne_of_lt (Heap.lt_size (N (T, tabObj ps) (.head _)).1))
      · obtain ⟨o, e, r⟩ := hl
        exact ⟨o, k _ _ hlT (Heap.get?_push_of_some _ e), r⟩
  · have hll : l < hp.objs.size := by obtain ⟨_, e, _⟩ := hl; exact Heap.lt_size e
    refine wpAny_pyIter_tuple hl ?_
    refine fgen_tail F N tp B hA hf hke X hge hC ht hcode hne hh hroom hz (fun A' hA' => Walks.tuple hA' hp.objs.size l (Nat.ne_of_lt hll) its) ?_ ?_ hll helt hQ
    · rintro i h ⟨⟨o, e, _⟩, _⟩ b hb
      rw [List.mem_singleton.mp hb]; exact ⟨o, e⟩
    · intro h₃ k
      refine ⟨⟨_, k _ _ ?_ (Heap.get?_push_size _ rfl), rfl, rfl⟩, ?_⟩
      · exact Ne.symm (Nat.ne_of_lt (Heap.lt_size (N (T, tabObj ps) (.head _)).1))
      · obtain ⟨o, e, r⟩ := hl
        exact ⟨o, k _ _ hlT (Heap.get?_push_of_some _ e), r⟩
end

theorem lay72 : True := by
  k_with_none
  k_with "std" => ((case qFq7 => first | assumption | exact rfl); (case qKq7 => first | assumption | exact rfl); (case qDq7 => ((try simp +zetaDelta only [depth_mark, depth_under_make, depth_under_kw, depth_in1, depth_deeper]); (try dsimp only); omega)); (case qUq7 => ((try simp +zetaDelta only [units_under_make, units_in1, units_deeper, Around.mark_units]); (try dsimp only); omega)); (case q1q7 => k_asm); (case q2q7 => k_asm); (case q3q7 => k_asm); (case q4q7 => k_asm); (case q5q7 => k_asm))
  k_with "m.k_room" => ((show _ < 1000); (try simp +zetaDelta only [depth_mark, depth_under_make, depth_under_kw, depth_in1, depth_deeper]); (try dsimp only); omega)
  k_with "m.k_units" => ((show _ < 9900); (try simp +zetaDelta only [units_under_make, units_in1, units_deeper, Around.mark_units]); (try dsimp only); omega)
  k_with "m.k_enter" => (refine' code_defB ?k1q7 ?k2q7 ?k3q7 ?k4q7 ?k5q7 ?kAq7 ?kFq7 ?kKq7 ?k6q7 ?k7q7 ?k8q7 ?kPq7 ?k9q7 ?kDq7 ?kBq7 ?_ ?c2q7 ?c3q7 ?c4q7 ?c5q7; (case kAq7 => exact rfl); (case kFq7 => first | assumption | exact rfl); (case kKq7 => first | assumption | exact rfl); (case k1q7 => k_asm); (case k2q7 => k_asm); (case k3q7 => k_asm); (case k4q7 => k_asm); (case k5q7 => k_asm); (case k6q7 => k_is); (case k7q7 => k_is); (case k8q7 => k_room); (case kPq7 => first | exact BindsP.nil | exact BindsP.cons BindsP.nil | exact BindsP.cons (BindsP.cons BindsP.nil) | exact BindsP.cons (BindsP.cons (BindsP.cons BindsP.nil)) | exact BindsP.cons (BindsP.cons (BindsP.cons (BindsP.cons BindsP.nil))) | exact BindsP.cons (BindsP.cons (BindsP.cons (BindsP.cons (BindsP.cons BindsP.nil)))) | exact BindsP.cons (BindsP.cons (BindsP.cons (BindsP.cons (BindsP.cons (BindsP.cons BindsP.nil))))) | exact BindsP.cons (BindsP.cons (BindsP.cons (BindsP.cons (BindsP.cons (BindsP.cons (BindsP.cons BindsP.nil)))))) | exact BindsP.cons (BindsP.cons (BindsP.cons (BindsP.cons (BindsP.cons (BindsP.cons (BindsP.cons (BindsP.cons BindsP.nil)))))))); (case k9q7 => first | exact BindsTo.of_eq rfl | exact binds_K (by k_in) rfl (by k_is) rfl rfl rfl | fail "k_enter: no rule for these arguments"); (case kDq7 => kernel_rfl); (case c5q7 => decide); (case kBq7 => exact locs rfl); (case c2q7 => exact rfl); (case c3q7 => exact rfl); (case c4q7 => exact rfl); k_whole; intro g'q L'q h'q FG'q F'q N'q B'q X'q T'q; (try dsimp only [bindMap, List.length_cons, List.length_nil] at F'q ⊢); (try k_lift B'q); (first | refine let q'q : Flow → Shared → Prop := _; let e'q : Value → Shared → Prop := _; let o'q : Around := _; let v'q : Env := _; let a'q : Around := Around.deeper o'q v'q; let s'q : Shared := _; (?_ : wpAny _ a'q (execs _ v'q) q'q e'q s'q) | skip))
  k_with "m:CmpBack" => (unfold PySem.W.CmpBack; (try dsimp only))
  k_with "m:LenBack" => (unfold PySem.W.LenBack; (try dsimp only))
  k_with "m:StrBack" => (unfold PySem.W.StrBack; (try dsimp only))
  k_with "m:BoolBack" => (unfold PySem.W.BoolBack; (try dsimp only))
  k_with "mem" => first | exact List.Mem.head _ | assumption | (refine' List.Mem.tail _ ?_; k_extra "mem")
  k_with "m.k_ne" => (refine neN ?_; (try dsimp only); first | ((refine Nat.ne_of_lt ?_; (repeat (first | with_reducible exact Nat.lt_add_one _ | with_reducible refine Nat.lt_add_one_of_lt ?_)); done)) | ((refine Nat.ne_of_gt ?_; (repeat (first | with_reducible exact Nat.lt_add_one _ | with_reducible refine Nat.lt_add_one_of_lt ?_)); done)) | ((with_reducible refine Nat.ne_of_gt ?_; first | with_reducible assumption | exact And.left (by with_reducible assumption) | exact And.left (And.right (by with_reducible assumption)) | exact And.left (And.right (And.right (by with_reducible assumption))) | exact And.left (And.right (And.right (And.right (by with_reducible assumption)))) | exact And.left (And.right (And.right (And.right (And.right (by with_reducible assumption))))) | exact And.left (And.right (And.right (And.right (And.right (And.right (by with_reducible assumption)))))) | exact And.left (And.right (And.right (And.right (And.right (And.right (And.right (by with_reducible assumption))))))) | exact And.left (And.right (And.right (And.right (And.right (And.right (And.right (And.right (by with_reducible assumption)))))))) | exact And.left (And.right (And.right (And.right (And.right (And.right (And.right (And.right (And.right (by with_reducible assumption))))))))))) | omega)
  k_with "m.k_mem" => k_extra "mem"
  k_with "m:eval Call" => ((with_reducible show wpAny _ _ (eval (Expr.Call (Expr.Name _ _) _ [] _) _) _ _ _); k_dflt (refine Call_ ?_))
  k_with "m:eval Call Attribute" => ((with_reducible show wpAny _ _ (eval (Expr.Call (Expr.Attribute _ _ _) _ [] _) _) _ _ _); k_dflt (refine MethodCall_ ?_))
  k_with "m:newTuple" => (k_here; k_dflt (refine' kup_newTuple ?Fq7 ?Nq7 ?_ ?zq7; (case Fq7 => k_asm); (case Nq7 => k_asm); (case zq7 => kmk_size)); intro D'q h'q F'q N'q l1q; clear l1q; (try k_sweep))
  k_with "m.k_steps" => repeat' (first | ((fail_if_success (fail_if_success k_unfold)); first | ((with_reducible refine (?_ : wpAny _ _ _ _ _ _)); (try dsimp only)) | (k_unfold; (try dsimp only))) | ((fail_if_success (fail_if_success k_fold)); refine let q'q : _ → _ → Prop := _; let s'q : Shared := _; (?_ : wpAny _ _ _ q'q _ s'q)) | (k_end; kc_close) | walk1 | (dsimp only; walk1) | (show (_ : _ → _ → Prop) _ _; k_unfold; (try dsimp only)) | (dsimp only [List.cons_append, List.nil_append]; walk1) | (leave1; walk_say "STEP leave1"; (try dsimp only)) | fail "no step")
  k_with "m.units_room" => ((have hcL'q := cLine_is); (simp +zetaDelta only [units_in1, units_deeper, Around.mark_units, units_caller, units_under_make]); omega)
  k_with "m.k_in" => first | with_reducible assumption | exact Frag.In.keeps (by k_asm) (Fr.keep (by k_asm))
  k_with "m.omega" => first | with_reducible assumption | (with_reducible show (_ : Nat) ≤ _; first | exact Nat.le_of_ble_eq_true rfl | exact omA (by with_reducible assumption) rfl | exact omB (by with_reducible assumption) rfl | exact omC (by with_reducible assumption) rfl) | (with_reducible show (_ : Nat) < _; first | exact Nat.le_of_ble_eq_true rfl | exact omD (by with_reducible assumption) rfl | exact omE (by with_reducible assumption) rfl) | (with_reducible show (_ : Int) ≤ _; first | decide | exact oiA (by with_reducible assumption) rfl | exact oiE (by with_reducible assumption) rfl | exact oiC (by with_reducible assumption) rfl | exact oiH (by with_reducible assumption) rfl) | (with_reducible show (_ : Int) < _; first | decide | exact oiB (by with_reducible assumption) rfl | exact oiF (by with_reducible assumption) rfl | exact oiG (by with_reducible assumption) rfl | exact oiD (by with_reducible assumption) rfl) | (with_reducible show ¬ ((_ : Int) = _); exact oiI (by with_reducible assumption) rfl) | lia
  k_with "sx" => first | with_reducible exact EI.const | ((with_reducible show EI _ _ _ _ _ (Expr.Name _ _) _); refine' EI.name ?Fq7 ?mq7 ?aq7 ?bq7 ?cq7; (case Fq7 => k_asm); (case mq7 => exact rfl); (case aq7 => exact rfl); (case bq7 => exact rfl); (case cq7 => exact rfl)) | ((with_reducible refine' EI.add ?dq7 ?eq7); (case dq7 => k_extra "sx"); (case eq7 => k_extra "sx")) | ((with_reducible refine' EI.sub ?dq7 ?eq7); (case dq7 => k_extra "sx"); (case eq7 => k_extra "sx")) | ((with_reducible refine' EI.mul ?dq7 ?eq7 ?fq7); (case dq7 => k_extra "sx"); (case eq7 => k_extra "sx"); (case fq7 => mul_fits)) | ((with_reducible refine' EI.mod ?dq7 ?eq7 ?fq7); (case dq7 => k_extra "sx"); (case eq7 => k_extra "sx"); (case fq7 => first | with_reducible assumption | decide | omega))
  k_with "m:eval BinOp" => ((with_reducible show wpAny _ _ (eval (Expr.BinOp _ _ _ _) _) _ _ _); k_dflt (refine' EI.use ?dq7 ?_; (case dq7 => k_extra "sx"); k_whole); intro t'q tk'q)
  k_with "m:exec Assign" => (k_dflt ((first | (with_reducible show wpAny _ _ (exec (Stmt.Assign [Expr.Name _ _] (Expr.BinOp _ _ _ _) _) _) _ _ _) | (with_reducible show wpAny _ _ (exec (Stmt.Assign [Expr.Name _ _] (Expr.Constant (Const.int _) _ _) _) _) _ _ _)); refine' EI.store ?dq7 ?sq7 ?_; (case dq7 => k_extra "sx"); (case sq7 => first | exact rfl | with_unfolding_all rfl); k_whole); intro t'q tk'q)
  k_with "m:eval Compare" => ((with_reducible show wpAny _ _ (eval (Expr.Compare _ _ _ _) _) _ _ _); k_dflt ((first | with_reducible refine' EI.eq ?dq7 ?eq7 ?bq7 ?_ | with_reducible refine' EI.ne ?dq7 ?eq7 ?bq7 ?_); (case dq7 => k_extra "sx"); (case eq7 => k_extra "sx"); (case bq7 => exact rfl); k_whole); intro tk'q)
  k_with "m:isTrue Compare" => ((with_reducible show wpAny _ _ (PySem.isTrue (Expr.Compare _ _ _ _) _ _) _ _ _); k_dflt ((first | with_reducible refine' EI.isEq ?dq7 ?eq7 ?bq7 ?_ | with_reducible refine' EI.isNe ?dq7 ?eq7 ?bq7 ?_ | with_reducible refine' EI.isLt ?dq7 ?eq7 ?bq7 ?_ | with_reducible refine' EI.isGt ?dq7 ?eq7 ?bq7 ?_); (case dq7 => k_extra "sx"); (case eq7 => k_extra "sx"); (case bq7 => exact rfl); k_whole); intro tk'q)
  k_with "sv" => (refine' EV.name ?Fq7 ?mq7 ?aq7 ?bq7 ?cq7; (case Fq7 => k_asm); (case mq7 => exact rfl); (case aq7 => exact rfl); (case bq7 => exact rfl); (case cq7 => exact rfl))
  k_with "m:eval Call" => k_dflt (first | ((with_reducible show wpAny _ _ (eval (Expr.Call (Expr.Name _ _) [Expr.Name _ _] [] _) _) _ _ _); refine' callK_V ?Fq7 ?Xq7 ?Tq7 ?hnq7 ?hkq7 ?k1q7 ?k2q7 ?k3q7 ?d1q7 ?_; (case d1q7 => k_extra "sv"); (case Fq7 => k_asm); (case Xq7 => k_asm); (case Tq7 => k_asm); (case k1q7 => exact rfl); (case k2q7 => exact rfl); (case k3q7 => exact rfl); (case hnq7 => k_is); (case hkq7 => k_is); k_whole; intro  tk'q) | ((with_reducible show wpAny _ _ (eval (Expr.Call (Expr.Name _ _) [_] [] _) _) _ _ _); refine' callK_I ?Fq7 ?Xq7 ?Tq7 ?hnq7 ?hkq7 ?k1q7 ?k2q7 ?k3q7 ?d1q7 ?_; (case d1q7 => k_extra "sx"); (case Fq7 => k_asm); (case Xq7 => k_asm); (case Tq7 => k_asm); (case k1q7 => exact rfl); (case k2q7 => exact rfl); (case k3q7 => exact rfl); (case hnq7 => k_is); (case hkq7 => k_is); k_whole; intro t'q tk'q) | ((with_reducible show wpAny _ _ (eval (Expr.Call (Expr.Name _ _) [Expr.Name _ _, Expr.Name _ _] [] _) _) _ _ _); refine' callK_VV ?Fq7 ?Xq7 ?Tq7 ?hnq7 ?hkq7 ?k1q7 ?k2q7 ?k3q7 ?d1q7 ?d2q7 ?_; (case d1q7 => k_extra "sv"); (case d2q7 => k_extra "sv"); (case Fq7 => k_asm); (case Xq7 => k_asm); (case Tq7 => k_asm); (case k1q7 => exact rfl); (case k2q7 => exact rfl); (case k3q7 => exact rfl); (case hnq7 => k_is); (case hkq7 => k_is); k_whole; intro  tk'q) | ((with_reducible show wpAny _ _ (eval (Expr.Call (Expr.Name _ _) [Expr.Name _ _, _] [] _) _) _ _ _); refine' callK_VI ?Fq7 ?Xq7 ?Tq7 ?hnq7 ?hkq7 ?k1q7 ?k2q7 ?k3q7 ?d1q7 ?d2q7 ?_; (case d1q7 => k_extra "sv"); (case d2q7 => k_extra "sx"); (case Fq7 => k_asm); (case Xq7 => k_asm); (case Tq7 => k_asm); (case k1q7 => exact rfl); (case k2q7 => exact rfl); (case k3q7 => exact rfl); (case hnq7 => k_is); (case hkq7 => k_is); k_whole; intro t'q tk'q) | ((with_reducible show wpAny _ _ (eval (Expr.Call (Expr.Name _ _) [_, Expr.Name _ _] [] _) _) _ _ _); refine' callK_IV ?Fq7 ?Xq7 ?Tq7 ?hnq7 ?hkq7 ?k1q7 ?k2q7 ?k3q7 ?d1q7 ?d2q7 ?_; (case d1q7 => k_extra "sx"); (case d2q7 => k_extra "sv"); (case Fq7 => k_asm); (case Xq7 => k_asm); (case Tq7 => k_asm); (case k1q7 => exact rfl); (case k2q7 => exact rfl); (case k3q7 => exact rfl); (case hnq7 => k_is); (case hkq7 => k_is); k_whole; intro t'q tk'q) | ((with_reducible show wpAny _ _ (eval (Expr.Call (Expr.Name _ _) [_, _] [] _) _) _ _ _); refine' callK_II ?Fq7 ?Xq7 ?Tq7 ?hnq7 ?hkq7 ?k1q7 ?k2q7 ?k3q7 ?d1q7 ?d2q7 ?_; (case d1q7 => k_extra "sx"); (case d2q7 => k_extra "sx"); (case Fq7 => k_asm); (case Xq7 => k_asm); (case Tq7 => k_asm); (case k1q7 => exact rfl); (case k2q7 => exact rfl); (case k3q7 => exact rfl); (case hnq7 => k_is); (case hkq7 => k_is); k_whole; intro t'q t'q tk'q) | ((with_reducible show wpAny _ _ (eval (Expr.Call (Expr.Name _ _) [Expr.Name _ _, Expr.Name _ _, Expr.Name _ _] [] _) _) _ _ _); refine' callK_VVV ?Fq7 ?Xq7 ?Tq7 ?hnq7 ?hkq7 ?k1q7 ?k2q7 ?k3q7 ?d1q7 ?d2q7 ?d3q7 ?_; (case d1q7 => k_extra "sv"); (case d2q7 => k_extra "sv"); (case d3q7 => k_extra "sv"); (case Fq7 => k_asm); (case Xq7 => k_asm); (case Tq7 => k_asm); (case k1q7 => exact rfl); (case k2q7 => exact rfl); (case k3q7 => exact rfl); (case hnq7 => k_is); (case hkq7 => k_is); k_whole; intro  tk'q) | ((with_reducible show wpAny _ _ (eval (Expr.Call (Expr.Name _ _) [Expr.Name _ _, Expr.Name _ _, _] [] _) _) _ _ _); refine' callK_VVI ?Fq7 ?Xq7 ?Tq7 ?hnq7 ?hkq7 ?k1q7 ?k2q7 ?k3q7 ?d1q7 ?d2q7 ?d3q7 ?_; (case d1q7 => k_extra "sv"); (case d2q7 => k_extra "sv"); (case d3q7 => k_extra "sx"); (case Fq7 => k_asm); (case Xq7 => k_asm); (case Tq7 => k_asm); (case k1q7 => exact rfl); (case k2q7 => exact rfl); (case k3q7 => exact rfl); (case hnq7 => k_is); (case hkq7 => k_is); k_whole; intro t'q tk'q) | ((with_reducible show wpAny _ _ (eval (Expr.Call (Expr.Name _ _) [Expr.Name _ _, _, Expr.Name _ _] [] _) _) _ _ _); refine' callK_VIV ?Fq7 ?Xq7 ?Tq7 ?hnq7 ?hkq7 ?k1q7 ?k2q7 ?k3q7 ?d1q7 ?d2q7 ?d3q7 ?_; (case d1q7 => k_extra "sv"); (case d2q7 => k_extra "sx"); (case d3q7 => k_extra "sv"); (case Fq7 => k_asm); (case Xq7 => k_asm); (case Tq7 => k_asm); (case k1q7 => exact rfl); (case k2q7 => exact rfl); (case k3q7 => exact rfl); (case hnq7 => k_is); (case hkq7 => k_is); k_whole; intro t'q tk'q) | ((with_reducible show wpAny _ _ (eval (Expr.Call (Expr.Name _ _) [Expr.Name _ _, _, _] [] _) _) _ _ _); refine' callK_VII ?Fq7 ?Xq7 ?Tq7 ?hnq7 ?hkq7 ?k1q7 ?k2q7 ?k3q7 ?d1q7 ?d2q7 ?d3q7 ?_; (case d1q7 => k_extra "sv"); (case d2q7 => k_extra "sx"); (case d3q7 => k_extra "sx"); (case Fq7 => k_asm); (case Xq7 => k_asm); (case Tq7 => k_asm); (case k1q7 => exact rfl); (case k2q7 => exact rfl); (case k3q7 => exact rfl); (case hnq7 => k_is); (case hkq7 => k_is); k_whole; intro t'q t'q tk'q) | ((with_reducible show wpAny _ _ (eval (Expr.Call (Expr.Name _ _) [Expr.Name _ _, Expr.Name _ _, Expr.Name _ _, Expr.Name _ _] [] _) _) _ _ _); refine' callK_VVVV ?Fq7 ?Xq7 ?Tq7 ?hnq7 ?hkq7 ?k1q7 ?k2q7 ?k3q7 ?d1q7 ?d2q7 ?d3q7 ?d4q7 ?_; (case d1q7 => k_extra "sv"); (case d2q7 => k_extra "sv"); (case d3q7 => k_extra "sv"); (case d4q7 => k_extra "sv"); (case Fq7 => k_asm); (case Xq7 => k_asm); (case Tq7 => k_asm); (case k1q7 => exact rfl); (case k2q7 => exact rfl); (case k3q7 => exact rfl); (case hnq7 => k_is); (case hkq7 => k_is); k_whole; intro  tk'q))
  k_with "sb" => first | ((with_reducible first | refine' EB.eq ?dq7 ?eq7 ?bq7 | refine' EB.ne ?dq7 ?eq7 ?bq7 | refine' EB.lt ?dq7 ?eq7 ?bq7 | refine' EB.le ?dq7 ?eq7 ?bq7 | refine' EB.gt ?dq7 ?eq7 ?bq7); (case dq7 => k_extra "sx"); (case eq7 => k_extra "sx"); (case bq7 => exact rfl)) | ((with_reducible refine' EB.one ?dq7); (case dq7 => k_extra "sb")) | ((with_reducible refine' EB.or ?dq7 ?eq7); (case dq7 => k_extra "sb"); (case eq7 => intro _; k_extra "sb")) | ((with_reducible refine' EB.and ?dq7 ?eq7); (case dq7 => k_extra "sb"); (case eq7 => intro _; k_extra "sb"))
  k_with "m:eval BoolOp" => (k_dflt (refine' EB.use ?dq7 ?_; (case dq7 => k_extra "sb"); k_whole); intro tk'q)
  k_with "m:eval Compare" => (k_dflt (refine' EB.use ?dq7 ?_; (case dq7 => k_extra "sb"); k_whole); intro tk'q)
  k_with "m:call ref" => ((with_reducible show wpAny _ _ (call (Value.ref 562) [Value.ref _, Value.int _ _] _) _ _ _); k_dflt (refine' law_at_c ?qFq7 ?qKq7 ?qDq7 ?qUq7 ?q1q7 ?q2q7 ?q3q7 ?q4q7 ?q5q7 ?rlq7 ?riq7 ?rnq7 ?r0q7 ?_; (k_extra "std"); (case rlq7 => k_asm); (case riq7 => k_asm); (case rnq7 => (first | assumption | omega)); (case r0q7 => (first | assumption | omega | decide)); k_whole; intro t'q h'q tk'q F'q N'q b1q b2q; (try dsimp only); (try k_sweep)))
  k_with "m:call type:bytes" => ((with_reducible show wpAny _ _ (call (Value.type "bytes") [Value.ref _]) _ _ _); (simp only [rangeKs_length] at *); walk_at "call type:bytes")
  k_with "m:call ref" => ((with_reducible show wpAny _ _ (call (Value.ref 621) [Value.int _ _, Value.int _ _] _) _ _ _); k_dflt (refine' octets_c ?qFq7 ?qKq7 ?qDq7 ?qUq7 ?q1q7 ?q2q7 ?q3q7 ?q4q7 ?q5q7 ?rnq7 ?r0q7 ?r1q7 ?r3q7 ?_; (k_extra "std"); (case rnq7 => (exact ⟨by first | assumption | omega, by first | assumption | omega⟩)); (case r0q7 => (first | assumption | exact Int.fmod_nonneg_of_pos _ (by decide) | omega)); (case r1q7 => (first | assumption | exact Int.lt_trans (Int.fmod_lt_of_pos _ (by decide)) (by decide) | omega)); (case r3q7 => (first | exact oct8 _ | exact oct6 _)); k_whole; intro b'q t'q h'q tk'q F'q N'q bsq bzq; (try dsimp only); (try k_sweep)))
  k_with "m:call ref" => ((with_reducible show wpAny _ _ (call (Value.ref 590) [Value.int _ _, Value.int _ _] _) _ _ _); k_dflt (refine' divisor_c ?qFq7 ?qKq7 ?qDq7 ?qUq7 ?q1q7 ?q2q7 ?q3q7 ?q4q7 ?q5q7 ?raq7 ?rbq7 ?_; (k_extra "std"); (case raq7 => (first | assumption | omega)); (case rbq7 => (first | assumption | omega)); k_whole; intro t'q h'q tk'q F'q N'q; (try dsimp only); (try k_sweep)))
  k_with "m.mul_fits" => ((fail_if_success (fail_if_success (with_reducible rename InvP _ _ _ _ _ _ => x9q))); exact mulok_fdiv (by omega) (by assumption) (by assumption))
  k_with "m:binaryOp FloorDiv int int" => (k_here; (fail_if_success (fail_if_success (with_reducible rename InvP _ _ _ _ _ _ => x9q))); (refine floordiv_int (by first | decide | omega) ?_ (Or.inl (noPylong64 (by omega)))))
  k_with "m:call ref" => ((with_reducible show wpAny _ _ (call (Value.ref 99) [Value.int _ _, Value.int _ _] _) _ _ _); k_dflt (refine' inv_c ?qFq7 ?qKq7 ?qDq7 ?qUq7 ?q1q7 ?q2q7 ?q3q7 ?q4q7 ?q5q7 ?rnq7 ?rn2q7 ?rgq7 ?_; (k_extra "std"); (case rnq7 => (first | assumption | omega)); (case rn2q7 => (first | assumption | omega)); (case rgq7 => (first | assumption | exact inv_g1 (by assumption) (by omega) | exact inv_g2 (by assumption))); k_whole; intro r'q t'q h'q tk'q F'q N'q i1q i2q i3q i4q; (try dsimp only); (try k_sweep)))
  k_with "m:storeName" => (k_here; k_dflt (refine' storeM ?Fq7 ?Nq7 ?_ ?aq7 ?bq7; (case Fq7 => k_asm); (case Nq7 => k_asm); (case aq7 => rfl); (case bq7 => rfl); k_whole; intro m'q n'q h'q F'q N'q; (try k_sweep)))
  k_with "m:call ref" => ((with_reducible show wpAny _ _ (call (Value.ref 530) [Value.int _ _, Value.int _ _] _) _ _ _); k_dflt (refine' fq530_new ?qFq7 ?qKq7 ?qDq7 ?qUq7 ?q1q7 ?q2q7 ?q3q7 ?q4q7 ?q5q7 ?rqq7 ?_; (k_extra "std"); (case rqq7 => (first | assumption | omega | decide)); k_whole; intro x'q dx'q t1'q t2'q t3'q t4'q h'q tk'q F'q N'q l1q l2q b1q b2q; (try dsimp only); (try k_sweep); (try k_lt l1q); (try k_lt2 l2q)))
  k_with "m:call ref" => ((with_reducible show wpAny _ _ (call (Value.ref 513) [Value.ref _, Value.int _ _] _) _ _ _); k_dflt (refine' fq530_made ?qFq7 ?qKq7 ?qDq7 ?qUq7 ?q1q7 ?q2q7 ?q3q7 ?q4q7 ?q5q7 ?rxq7 ?rdxq7 ?rqq7 ?_; (k_extra "std"); (case rxq7 => k_mem); (case rdxq7 => k_mem); (case rqq7 => (first | assumption | omega)); k_whole; intro x'q dx'q t1'q t2'q t3'q t4'q h'q tk'q F'q N'q l1q l2q b1q b2q; (try dsimp only); (try k_sweep); clear l1q l2q))
  k_with "m:call ref" => ((with_reducible show wpAny _ _ (call (Value.ref 530) [Value.int _ _, Value.int _ _] _) _ _ _); k_dflt (refine' fq530_new ?qFq7 ?qKq7 ?qDq7 ?qUq7 ?q1q7 ?q2q7 ?q3q7 ?q4q7 ?q5q7 ?rqq7 ?_; (k_extra "std"); (case rqq7 => (first | assumption | omega | decide)); k_whole; intro x'q dx'q t1'q t2'q t3'q t4'q h'q tk'q F'q N'q l1q l2q b1q b2q; (try dsimp only); (try k_sweep); clear l1q l2q))
  k_with "m:call ref" => ((with_reducible show wpAny _ _ (call (Value.ref 527) [Value.ref _] _) _ _ _); k_dflt (refine' fq530_zero ?qFq7 ?qKq7 ?qDq7 ?qUq7 ?q1q7 ?q2q7 ?q3q7 ?q4q7 ?q5q7 ?rxq7 ?rdxq7 ?rqq7 ?_; (k_extra "std"); (case rxq7 => k_mem); (case rdxq7 => k_mem); (case rqq7 => (first | assumption | omega)); k_whole; intro x'q dx'q t1'q t2'q t3'q t4'q h'q tk'q F'q N'q; (try dsimp only); (try k_sweep)))
  k_with "m:call ref" => ((with_reducible show wpAny _ _ (call (Value.ref 400) [Value.ref _, Value.ref _] _) _ _ _); k_dflt (refine' fq530_mul ?qFq7 ?qKq7 ?qDq7 ?qUq7 ?q1q7 ?q2q7 ?q3q7 ?q4q7 ?q5q7 ?rxq7 ?rdxq7 ?ryq7 ?rdyq7 ?rqq7 ?rn0q7 ?rn1q7 ?rq2q7 ?_; (k_extra "std"); (case rxq7 => k_mem); (case rdxq7 => k_mem); (case ryq7 => k_mem); (case rdyq7 => k_mem); (case rqq7 => (first | assumption | omega)); (case rn0q7 => (first | assumption | omega)); (case rn1q7 => (first | assumption | omega)); (case rq2q7 => (first | assumption | omega)); k_whole; intro x'q dx'q t1'q t2'q t3'q t4'q h'q tk'q F'q N'q b1q b2q; (try dsimp only); (try k_sweep)))
  k_with "m:call ref" => ((with_reducible show wpAny _ _ (call (Value.ref 428) [Value.ref _, Value.ref _] _) _ _ _); k_dflt (refine' fq530_sub ?qFq7 ?qKq7 ?qDq7 ?qUq7 ?q1q7 ?q2q7 ?q3q7 ?q4q7 ?q5q7 ?rxq7 ?rdxq7 ?ryq7 ?rdyq7 ?rqq7 ?rn0q7 ?rn1q7 ?rq2q7 ?_; (k_extra "std"); (case rxq7 => k_mem); (case rdxq7 => k_mem); (case ryq7 => k_mem); (case rdyq7 => k_mem); (case rqq7 => (first | assumption | omega)); (case rn0q7 => (first | assumption | omega)); (case rn1q7 => (first | assumption | omega)); (case rq2q7 => (first | assumption | omega)); k_whole; intro x'q dx'q t1'q t2'q t3'q t4'q h'q tk'q F'q N'q b1q b2q; (try dsimp only); (try k_sweep)))
  k_with "m:call ref" => ((with_reducible show wpAny _ _ (call (Value.ref 456) [Value.ref _, Value.int _ _] _) _ _ _); k_dflt (refine' fq530_pow1 ?qFq7 ?qKq7 ?qDq7 ?qUq7 ?q1q7 ?q2q7 ?q3q7 ?q4q7 ?q5q7 ?rxq7 ?rdxq7 ?rqq7 ?rn0q7 ?rn1q7 ?rq2q7 ?_; (k_extra "std"); (case rxq7 => k_mem); (case rdxq7 => k_mem); (case rqq7 => (first | assumption | omega)); (case rn0q7 => (first | assumption | omega)); (case rn1q7 => (first | assumption | omega)); (case rq2q7 => (first | assumption | omega)); k_whole; intro x'q dx'q t1'q t2'q t3'q t4'q h'q tk'q F'q N'q b1q b2q; (try dsimp only); (try k_sweep)))
  k_with "m:call ref" => ((with_reducible show wpAny _ _ (call (Value.ref 456) [Value.ref _, Value.int _ _] _) _ _ _); k_dflt (refine' fq530_pow2 ?qFq7 ?qKq7 ?qDq7 ?qUq7 ?q1q7 ?q2q7 ?q3q7 ?q4q7 ?q5q7 ?rxq7 ?rdxq7 ?rqq7 ?rn0q7 ?rn1q7 ?rq2q7 ?_; (k_extra "std"); (case rxq7 => k_mem); (case rdxq7 => k_mem); (case rqq7 => (first | assumption | omega)); (case rn0q7 => (first | assumption | omega)); (case rn1q7 => (first | assumption | omega)); (case rq2q7 => (first | assumption | omega)); k_whole; intro x'q dx'q t1'q t2'q t3'q t4'q h'q tk'q F'q N'q b1q b2q; (try dsimp only); (try k_sweep)))
  k_with "m:call ref" => ((with_reducible show wpAny _ _ (call (Value.ref 456) [Value.ref _, Value.int _ _] _) _ _ _); k_dflt (refine' fq530_pow3 ?qFq7 ?qKq7 ?qDq7 ?qUq7 ?q1q7 ?q2q7 ?q3q7 ?q4q7 ?q5q7 ?rxq7 ?rdxq7 ?rqq7 ?rn0q7 ?rn1q7 ?rq2q7 ?_; (k_extra "std"); (case rxq7 => k_mem); (case rdxq7 => k_mem); (case rqq7 => (first | assumption | omega)); (case rn0q7 => (first | assumption | omega)); (case rn1q7 => (first | assumption | omega)); (case rq2q7 => (first | assumption | omega)); k_whole; intro x'q dx'q t1'q t2'q t3'q t4'q h'q tk'q F'q N'q b1q b2q; (try dsimp only); (try k_sweep)))
  k_with "m:call ref" => ((with_reducible show wpAny _ _ (call (Value.ref 463) [Value.ref _, Value.ref _] _) _ _ _); k_dflt (refine' fq530_eq ?qFq7 ?qKq7 ?qDq7 ?qUq7 ?q1q7 ?q2q7 ?q3q7 ?q4q7 ?q5q7 ?rxq7 ?rdxq7 ?ryq7 ?rdyq7 ?_; (k_extra "std"); (case rxq7 => k_mem); (case rdxq7 => k_mem); (case ryq7 => k_mem); (case rdyq7 => k_mem); k_whole; intro h'q tk'q F'q N'q; (try dsimp only); (try k_sweep)))
  k_with "m:call ref" => ((with_reducible show wpAny _ _ (call (Value.ref 254) [Value.int _ _, Value.int _ _] _) _ _ _); k_dflt (refine' fq254_new ?qFq7 ?qKq7 ?qDq7 ?qUq7 ?q1q7 ?q2q7 ?q3q7 ?q4q7 ?q5q7 ?rqq7 ?_; (k_extra "std"); (case rqq7 => (first | assumption | omega | decide)); k_whole; intro x'q dx'q t1'q t2'q t3'q t4'q h'q tk'q F'q N'q l1q l2q b1q b2q; (try dsimp only); (try k_sweep); (try k_lt l1q); (try k_lt2 l2q)))
  k_with "m:call ref" => ((with_reducible show wpAny _ _ (call (Value.ref 254) [Value.ref _, Value.int _ _] _) _ _ _); k_dflt (refine' fq254_newfq ?qFq7 ?qKq7 ?qDq7 ?qUq7 ?q1q7 ?q2q7 ?q3q7 ?q4q7 ?q5q7 ?rxq7 ?rdxq7 ?_; (k_extra "std"); (case rxq7 => k_mem); (case rdxq7 => k_mem); k_whole; intro x'q dx'q t1'q t2'q t3'q t4'q h'q tk'q F'q N'q l1q l2q; (try dsimp only); (try k_sweep); (try k_lt l1q); (try k_lt2 l2q)))
  k_with "m:call ref" => ((with_reducible show wpAny _ _ (call (Value.ref 237) [Value.ref _, Value.int _ _] _) _ _ _); k_dflt (refine' fq254_made ?qFq7 ?qKq7 ?qDq7 ?qUq7 ?q1q7 ?q2q7 ?q3q7 ?q4q7 ?q5q7 ?rxq7 ?rdxq7 ?rqq7 ?_; (k_extra "std"); (case rxq7 => k_mem); (case rdxq7 => k_mem); (case rqq7 => (first | assumption | omega)); k_whole; intro x'q dx'q t1'q t2'q t3'q t4'q h'q tk'q F'q N'q l1q l2q b1q b2q; (try dsimp only); (try k_sweep); clear l1q l2q))
  k_with "m:call ref" => ((with_reducible show wpAny _ _ (call (Value.ref 254) [Value.int _ _, Value.int _ _] _) _ _ _); k_dflt (refine' fq254_new ?qFq7 ?qKq7 ?qDq7 ?qUq7 ?q1q7 ?q2q7 ?q3q7 ?q4q7 ?q5q7 ?rqq7 ?_; (k_extra "std"); (case rqq7 => (first | assumption | omega | decide)); k_whole; intro x'q dx'q t1'q t2'q t3'q t4'q h'q tk'q F'q N'q l1q l2q b1q b2q; (try dsimp only); (try k_sweep); clear l1q l2q))
  k_with "m:call ref" => ((with_reducible show wpAny _ _ (call (Value.ref 254) [Value.ref _, Value.int _ _] _) _ _ _); k_dflt (refine' fq254_newfq ?qFq7 ?qKq7 ?qDq7 ?qUq7 ?q1q7 ?q2q7 ?q3q7 ?q4q7 ?q5q7 ?rxq7 ?rdxq7 ?_; (k_extra "std"); (case rxq7 => k_mem); (case rdxq7 => k_mem); k_whole; intro x'q dx'q t1'q t2'q t3'q t4'q h'q tk'q F'q N'q l1q l2q; (try dsimp only); (try k_sweep); clear l1q l2q))
  k_with "m:call ref" => ((with_reducible show wpAny _ _ (call (Value.ref 139) [Value.ref _, Value.ref _] _) _ _ _); k_dflt (refine' fq254_mul ?qFq7 ?qKq7 ?qDq7 ?qUq7 ?q1q7 ?q2q7 ?q3q7 ?q4q7 ?q5q7 ?rxq7 ?rdxq7 ?ryq7 ?rdyq7 ?rqq7 ?rn0q7 ?rn1q7 ?rq2q7 ?_; (k_extra "std"); (case rxq7 => k_mem); (case rdxq7 => k_mem); (case ryq7 => k_mem); (case rdyq7 => k_mem); (case rqq7 => (first | assumption | omega)); (case rn0q7 => (first | assumption | omega)); (case rn1q7 => (first | assumption | omega)); (case rq2q7 => (first | assumption | omega)); k_whole; intro x'q dx'q t1'q t2'q t3'q t4'q h'q tk'q F'q N'q b1q b2q; (try dsimp only); (try k_sweep)))
  k_with "m:call ref" => ((with_reducible show wpAny _ _ (call (Value.ref 167) [Value.ref _, Value.ref _] _) _ _ _); k_dflt (refine' fq254_sub ?qFq7 ?qKq7 ?qDq7 ?qUq7 ?q1q7 ?q2q7 ?q3q7 ?q4q7 ?q5q7 ?rxq7 ?rdxq7 ?ryq7 ?rdyq7 ?rqq7 ?rn0q7 ?rn1q7 ?rq2q7 ?_; (k_extra "std"); (case rxq7 => k_mem); (case rdxq7 => k_mem); (case ryq7 => k_mem); (case rdyq7 => k_mem); (case rqq7 => (first | assumption | omega)); (case rn0q7 => (first | assumption | omega)); (case rn1q7 => (first | assumption | omega)); (case rq2q7 => (first | assumption | omega)); k_whole; intro x'q dx'q t1'q t2'q t3'q t4'q h'q tk'q F'q N'q b1q b2q; (try dsimp only); (try k_sweep)))
  k_with "m:call ref" => ((with_reducible show wpAny _ _ (call (Value.ref 132) [Value.ref _, Value.ref _] _) _ _ _); k_dflt (refine' fq254_add ?qFq7 ?qKq7 ?qDq7 ?qUq7 ?q1q7 ?q2q7 ?q3q7 ?q4q7 ?q5q7 ?rxq7 ?rdxq7 ?ryq7 ?rdyq7 ?rqq7 ?rn0q7 ?rn1q7 ?rq2q7 ?_; (k_extra "std"); (case rxq7 => k_mem); (case rdxq7 => k_mem); (case ryq7 => k_mem); (case rdyq7 => k_mem); (case rqq7 => (first | assumption | omega)); (case rn0q7 => (first | assumption | omega)); (case rn1q7 => (first | assumption | omega)); (case rq2q7 => (first | assumption | omega)); k_whole; intro x'q dx'q t1'q t2'q t3'q t4'q h'q tk'q F'q N'q b1q b2q; (try dsimp only); (try k_sweep)))
  k_with "m:call ref" => ((with_reducible show wpAny _ _ (call (Value.ref 188) [Value.ref _, Value.int _ _] _) _ _ _); k_dflt (refine' fq254_pow1 ?qFq7 ?qKq7 ?qDq7 ?qUq7 ?q1q7 ?q2q7 ?q3q7 ?q4q7 ?q5q7 ?rxq7 ?rdxq7 ?rqq7 ?rn0q7 ?rn1q7 ?rq2q7 ?_; (k_extra "std"); (case rxq7 => k_mem); (case rdxq7 => k_mem); (case rqq7 => (first | assumption | omega)); (case rn0q7 => (first | assumption | omega)); (case rn1q7 => (first | assumption | omega)); (case rq2q7 => (first | assumption | omega)); k_whole; intro x'q dx'q t1'q t2'q t3'q t4'q h'q tk'q F'q N'q b1q b2q; (try dsimp only); (try k_sweep)))
  k_with "m:call ref" => ((with_reducible show wpAny _ _ (call (Value.ref 188) [Value.ref _, Value.int _ _] _) _ _ _); k_dflt (refine' fq254_pow2 ?qFq7 ?qKq7 ?qDq7 ?qUq7 ?q1q7 ?q2q7 ?q3q7 ?q4q7 ?q5q7 ?rxq7 ?rdxq7 ?rqq7 ?rn0q7 ?rn1q7 ?rq2q7 ?_; (k_extra "std"); (case rxq7 => k_mem); (case rdxq7 => k_mem); (case rqq7 => (first | assumption | omega)); (case rn0q7 => (first | assumption | omega)); (case rn1q7 => (first | assumption | omega)); (case rq2q7 => (first | assumption | omega)); k_whole; intro x'q dx'q t1'q t2'q t3'q t4'q h'q tk'q F'q N'q b1q b2q; (try dsimp only); (try k_sweep)))
  k_with "m:call ref" => ((with_reducible show wpAny _ _ (call (Value.ref 188) [Value.ref _, Value.int _ _] _) _ _ _); k_dflt (refine' fq254_pow3 ?qFq7 ?qKq7 ?qDq7 ?qUq7 ?q1q7 ?q2q7 ?q3q7 ?q4q7 ?q5q7 ?rxq7 ?rdxq7 ?rqq7 ?rn0q7 ?rn1q7 ?rq2q7 ?_; (k_extra "std"); (case rxq7 => k_mem); (case rdxq7 => k_mem); (case rqq7 => (first | assumption | omega)); (case rn0q7 => (first | assumption | omega)); (case rn1q7 => (first | assumption | omega)); (case rq2q7 => (first | assumption | omega)); k_whole; intro x'q dx'q t1'q t2'q t3'q t4'q h'q tk'q F'q N'q b1q b2q; (try dsimp only); (try k_sweep)))
  k_with "m:call ref" => ((with_reducible show wpAny _ _ (call (Value.ref 195) [Value.ref _, Value.ref _] _) _ _ _); k_dflt (refine' fq254_eq ?qFq7 ?qKq7 ?qDq7 ?qUq7 ?q1q7 ?q2q7 ?q3q7 ?q4q7 ?q5q7 ?rxq7 ?rdxq7 ?ryq7 ?rdyq7 ?_; (k_extra "std"); (case rxq7 => k_mem); (case rdxq7 => k_mem); (case ryq7 => k_mem); (case rdyq7 => k_mem); k_whole; intro h'q tk'q F'q N'q; (try dsimp only); (try k_sweep)))
  k_with "m:call ref" => ((with_reducible show wpAny _ _ (call (Value.ref 254) [Value.int _ _, Value.int _ _] _) _ _ _); k_dflt (refine' fq254_new ?qFq7 ?qKq7 ?qDq7 ?qUq7 ?q1q7 ?q2q7 ?q3q7 ?q4q7 ?q5q7 ?rqq7 ?_; (k_extra "std"); (case rqq7 => (first | assumption | omega | decide)); k_whole; intro x'q dx'q t1'q t2'q t3'q t4'q h'q tk'q F'q N'q l1q l2q b1q b2q; (try dsimp only); (try k_sweep)))
  k_with "m:call ref" => ((with_reducible show wpAny _ _ (call (Value.ref 254) [Value.ref _, Value.int _ _] _) _ _ _); k_dflt (refine' fq254_newfq ?qFq7 ?qKq7 ?qDq7 ?qUq7 ?q1q7 ?q2q7 ?q3q7 ?q4q7 ?q5q7 ?rxq7 ?rdxq7 ?_; (k_extra "std"); (case rxq7 => k_mem); (case rdxq7 => k_mem); k_whole; intro x'q dx'q t1'q t2'q t3'q t4'q h'q tk'q F'q N'q l1q l2q; (try dsimp only); (try k_sweep)))
  k_with "m:call ref" => ((with_reducible show wpAny _ _ (call (Value.ref 286) [Value.ref _, Value.int _ _] _) _ _ _); k_dflt (refine' corr1_int ?qFq7 ?qKq7 ?qDq7 ?qUq7 ?q1q7 ?q2q7 ?q3q7 ?q4q7 ?q5q7 ?rxq7 ?rdxq7 ?rqq7 ?_; (k_extra "std"); (case rxq7 => k_mem); (case rdxq7 => k_mem); (case rqq7 => (first | assumption | omega)); k_whole; intro x'q dx'q t1'q t2'q t3'q t4'q h'q tk'q F'q N'q l1q l2q b1q b2q; (try dsimp only); (try k_sweep)))
  k_with "m:call ref" => ((with_reducible show wpAny _ _ (call (Value.ref 286) [Value.ref _, Value.ref _] _) _ _ _); k_dflt (refine' corr1_fq ?qFq7 ?qKq7 ?qDq7 ?qUq7 ?q1q7 ?q2q7 ?q3q7 ?q4q7 ?q5q7 ?rxq7 ?rdxq7 ?ryq7 ?rdyq7 ?_; (k_extra "std"); (case rxq7 => k_mem); (case rdxq7 => k_mem); (case ryq7 => k_mem); (case rdyq7 => k_mem); k_whole; intro x'q dx'q t1'q t2'q t3'q t4'q h'q tk'q F'q N'q l1q l2q; (try dsimp only); (try k_sweep)))
  k_with "m:call ref" => ((with_reducible show wpAny _ _ (call (Value.ref 237) [Value.ref _, Value.int _ _] _) _ _ _); k_dflt (refine' fq254_made ?qFq7 ?qKq7 ?qDq7 ?qUq7 ?q1q7 ?q2q7 ?q3q7 ?q4q7 ?q5q7 ?rxq7 ?rdxq7 ?rqq7 ?_; (k_extra "std"); (case rxq7 => k_mem); (case rdxq7 => k_mem); (case rqq7 => (first | assumption | omega)); k_whole; intro x'q dx'q t1'q t2'q t3'q t4'q h'q tk'q F'q N'q l1q l2q b1q b2q; (try dsimp only); (try k_sweep)))
  k_with "m:call ref" => ((with_reducible show wpAny _ _ (call (Value.ref 139) [Value.ref _, Value.ref _] _) _ _ _); k_dflt (refine' fq254_mulF ?qFq7 ?qKq7 ?qDq7 ?qUq7 ?q1q7 ?q2q7 ?q3q7 ?q4q7 ?q5q7 ?rxq7 ?rdxq7 ?ryq7 ?rdyq7 ?rqq7 ?rn0q7 ?rn1q7 ?rq2q7 ?_; (k_extra "std"); (case rxq7 => k_mem); (case rdxq7 => k_mem); (case ryq7 => k_mem); (case rdyq7 => k_mem); (case rqq7 => (first | assumption | omega)); (case rn0q7 => (first | assumption | omega)); (case rn1q7 => (first | assumption | omega)); (case rq2q7 => (first | assumption | omega)); k_whole; intro x'q dx'q t1'q t2'q t3'q t4'q h'q tk'q F'q N'q l1q l2q b1q b2q; (try dsimp only); (try k_sweep)))
  k_with "m:call ref" => ((with_reducible show wpAny _ _ (call (Value.ref 167) [Value.ref _, Value.ref _] _) _ _ _); k_dflt (refine' fq254_subF ?qFq7 ?qKq7 ?qDq7 ?qUq7 ?q1q7 ?q2q7 ?q3q7 ?q4q7 ?q5q7 ?rxq7 ?rdxq7 ?ryq7 ?rdyq7 ?rqq7 ?rn0q7 ?rn1q7 ?rq2q7 ?_; (k_extra "std"); (case rxq7 => k_mem); (case rdxq7 => k_mem); (case ryq7 => k_mem); (case rdyq7 => k_mem); (case rqq7 => (first | assumption | omega)); (case rn0q7 => (first | assumption | omega)); (case rn1q7 => (first | assumption | omega)); (case rq2q7 => (first | assumption | omega)); k_whole; intro x'q dx'q t1'q t2'q t3'q t4'q h'q tk'q F'q N'q l1q l2q b1q b2q; (try dsimp only); (try k_sweep)))
  k_with "m:call ref" => ((with_reducible show wpAny _ _ (call (Value.ref 132) [Value.ref _, Value.ref _] _) _ _ _); k_dflt (refine' fq254_addF ?qFq7 ?qKq7 ?qDq7 ?qUq7 ?q1q7 ?q2q7 ?q3q7 ?q4q7 ?q5q7 ?rxq7 ?rdxq7 ?ryq7 ?rdyq7 ?rqq7 ?rn0q7 ?rn1q7 ?rq2q7 ?_; (k_extra "std"); (case rxq7 => k_mem); (case rdxq7 => k_mem); (case ryq7 => k_mem); (case rdyq7 => k_mem); (case rqq7 => (first | assumption | omega)); (case rn0q7 => (first | assumption | omega)); (case rn1q7 => (first | assumption | omega)); (case rq2q7 => (first | assumption | omega)); k_whole; intro x'q dx'q t1'q t2'q t3'q t4'q h'q tk'q F'q N'q l1q l2q b1q b2q; (try dsimp only); (try k_sweep)))
  k_with "m:pyIter bytes" => (rename Fr _ _ _ _ => hF9; rename News _ _ _ _ => hN9q; (k_dflt (refine' iterBytes_cell ?hh9q7 hF9 hN9q ?hd9q7 ?hne9q7 ?turn9q7 ?done9q7; (case hh9q7 => exact rfl); (case hd9q7 => assumption); (case hne9q7 => assumption); k_whole)); (try clear hF9 hN9q))
  k_with "m:subscriptTail" => (k_here; (with_reducible show wpAny _ _ (subscriptTail _ (Expr.Slice _ _ none _) (Value.bytes _ _) (Value.ref _)) _ _ _); (with_reducible rename Fr _ _ _ _ => F'q); (with_reducible rename News _ _ _ _ => N'q); (refine KBc.slice_K (s := ⟨_, _, _, _, _⟩) F'q N'q rfl (by constructor) (by constructor) (by rw [KBw.ints_length]; first | assumption | omega | (simp [byteArr, rangeKs_length]; done)) ?_); intro _ _ _ _ _ kbcKq; clear kbcKq)
  k_with "m.k_all" => assumption
  trivial
-- piece fqp
noncomputable abbrev gpos : Pos := { line := 231, col := 28, endLine := 231, endCol := 80 }
noncomputable abbrev tupO (its : Array Value) : Obj := { cls := .type "tuple", data := .seq its }
noncomputable def Coef (P : Params) (q : Int) (news : List (Addr × Obj)) (v : Value) (n : Int) : Prop :=
  (∃ k t, v = .int k t ∧ n = k % q) ∨ (∃ a d t1 t2 t3 t4, v = .ref a ∧ (a, instObj 254 d) ∈ news ∧ (d, fqD P q n t1 t2 t3 t4) ∈ news)
inductive FqpAt (P : Params) (q : Int) (x : Addr) (ns rows : List Int) (objs : List (Addr × Obj)) : Prop
  | mk : ∀ (dx tc tm : Addr) (vs ms : List Value) (dg : Int) (t1 t2 t3 t4 t5 t6 : Tok), ((x, instObj 368 dx) ∈ objs) → ((dx, p4D P q tc tm dg t1 t2 t3 t4 t5 t6) ∈ objs) → ((tc, tupO vs.toArray) ∈ objs) → ((tm, tupO ms.toArray) ∈ objs) → (FqL P q objs vs ns) → (IntsAre ms rows) → (dg = (rows.length : Int)) → FqpAt P q x ns rows objs
theorem truthy_ne_self {prog : Program} {w : World} {A : Around} {E : Value → Shared → Prop} {s : Shared} {n : Int} {Q : Bool → Shared → Prop} (h : wpAny (model prog w) A (truthy (.bool false)) Q E s) : wpAny (model prog w) A (truthy (.bool (n != n))) Q E s := by
  rw [bne_self_eq_false]; exact h
theorem lay73 : True := by
  k_with "m:truthy bool" => (with_reducible refine truthy_ne_self ?_)
  trivial
noncomputable def StopAt (P : Prop) : Prop := P
theorem StopAt.go {P : Prop} (h : StopAt P) : P := h
theorem lay74 : True := by
  k_with "m:eval GeneratorExp" => refine StopAt.go ?_
  trivial
section
variable {prog : Program} {w : World} {A : Around} {E : Value → Shared → Prop} {s : Shared}
theorem lenL {l : Addr} {vs : List Value} {n : Nat} {Q : Value → Shared → Prop} (hl : s.heap.IsList l vs.toArray) (hn : vs.length = n) (hz : n ≤ 16384) (h : Q (.int (n : Int) (s.toks + 1)) { s with toks := s.toks + 1 + 1 }) :
    wpAny (model prog w) A (call (.builtin "len") [.ref l]) Q E s := kun_lenL hl (by rw [List.size_toArray, hn]) (by omega) h
theorem lenT {l : Addr} {vs : List Value} {n : Nat} {Q : Value → Shared → Prop} (hl : IsTup s.heap l vs.toArray) (hn : vs.length = n) (hz : n ≤ 16384) (h : Q (.int (n : Int) (s.toks + 1)) { s with toks := s.toks + 1 + 1 }) :
    wpAny (model prog w) A (call (.builtin "len") [.ref l]) Q E s := kun_lenT hl (by rw [List.size_toArray, hn]) (by omega) h
end
theorem lay75 : True := by
  k_with "m:call builtin:len" => first | ((with_reducible show wpAny _ _ (call (Value.builtin "len") [Value.ref _]) _ _ _); k_dflt (first | (refine lenL (News.isList (by k_asm) (by k_mem)) (by with_reducible assumption) ?kzq7 ?_; (case kzq7 => omega)) | (refine lenT (News.isTup (by k_asm) (by k_mem)) (by with_reducible assumption) ?kzq7 ?_; (case kzq7 => omega))))
  trivial
section
variable {M : Model} {A : Around} {E : Value → Shared → Prop} {s : Shared} {h₀ : Heap} {C bi c : Addr} {news : List (Addr × Obj)} {scope : Scope} {cl : List (Str × Addr)} {code : Value} {env : Env} {x : Str} {pos : Pos} {v : Value} {o : Obj} {m : Str → Option Value} {Q : Value → Shared → Prop}
theorem ge_free (N : News h₀ C s.heap news) (hc : cl.lookup x = some c) (hm : (c, o) ∈ news) (hd : o.data = .cell (some v)) (h : Q v s)
    (hk : (genEnv scope cl C code bi env).scope.kind = .function) (hx : (genEnv scope cl C code bi env).kindOf x = some .free) (hb : (x == ("__debug__" : Str)) = false := by decide) (hn : (x == ("__classdict__" : Str)) = false := by decide) :
    wpAny M A (eval (.Name x pos) (genEnv scope cl C code bi env)) Q E s := wpAny_Name (wpAny_loadName_free hk hx hc ⟨o, N.get hm, hd⟩ h hn) hb
theorem ge_loc (F : Fr h₀ C s.heap m) (hv : m x = some v) (h : Q v s)
    (hk : (genEnv scope cl C code bi env).scope.kind = .function) (hx : (genEnv scope cl C code bi env).kindOf x = some .local) (hb : (x == ("__debug__" : Str)) = false := by decide) :
    wpAny M A (eval (.Name x pos) (genEnv scope cl C code bi env)) Q E s := wpAny_Name (wpAny_loadName_local hk hx F.ns hv h) hb
end
theorem lay76 : True := by
  k_with "m:callWith ref" => (k_here; (with_reducible show wpAny _ _ (callWith _ (Value.ref _) _ (backTo _ (starEach (_ :: _) _)) []) _ _ _); k_dflt (refine' callWith_K ?k1q7 ?k2q7 ?_; (case k1q7 => k_asm); (case k2q7 => k_is); k_whole))
  k_with "m:eval Name" => ((with_reducible show wpAny _ _ (eval (PySem.Expr.Name _ _) (genEnv _ _ _ _ _ _)) _ _ _); k_dflt (first | (refine' ge_loc ?Fq7 ?vq7 ?_ ?aq7 ?bq7; (case aq7 => rfl); (case bq7 => rfl); (case Fq7 => k_asm); (case vq7 => with_reducible assumption); k_whole) | (refine' ge_free ?Nq7 ?cq7 ?mq7 ?dq7 ?_ ?aq7 ?bq7; (case aq7 => rfl); (case bq7 => rfl); (case Nq7 => k_asm); (case cq7 => rfl); (case mq7 => k_mem); (case dq7 => assumption); k_whole)))
  trivial
theorem regroup {h₀ h : Heap} {L D T c x d : Addr} {o t o1 o2 o3 : Obj} {objs news : List (Addr × Obj)} (N : News h₀ L h ((D, o) :: (objs ++ (T, t) :: (c, o1) :: (x, o2) :: (d, o3) :: news))) : News h₀ L h ((d, o3) :: (x, o2) :: (c, o1) :: (D, o) :: (T, t) :: (objs ++ news)) := fun p hp => by
  apply N p
  simp only [List.mem_cons, List.mem_append] at hp ⊢
  rcases hp with h | h | h | h | h | h | h
  · exact .inr (.inr (.inr (.inr (.inr (.inl h)))))
  · exact .inr (.inr (.inr (.inr (.inl h))))
  · exact .inr (.inr (.inr (.inl h)))
  · exact .inl h
  · exact .inr (.inr (.inl h))
  · exact .inr (.inl h)
  · exact .inr (.inr (.inr (.inr (.inr (.inr h)))))
theorem regroup_ne {D T c x d : Addr} {t o1 o2 o3 : Obj} {objs news : List (Addr × Obj)} (dis : ∀ q ∈ objs, ∀ r ∈ (T, t) :: (c, o1) :: (x, o2) :: (d, o3) :: news, q.1 ≠ r.1) (hnd : ∀ p ∈ news, p.1 ≠ d) : ∀ p ∈ objs ++ news, p.1 ≠ d := by
  intro p hp
  rcases List.mem_append.mp hp with hp | hp
  · exact dis p hp (d, o3) (.tail _ (.tail _ (.tail _ (.head _))))
  · exact hnd p hp
theorem regroup_lt {D T c x d : Addr} {t o1 o2 o3 : Obj} {objs news : List (Addr × Obj)} (lt : ∀ r ∈ objs ++ (T, t) :: (c, o1) :: (x, o2) :: (d, o3) :: news, r.1 < D) : @LT.lt Nat _ d D := lt (d, o3) (List.mem_append_right _ (.tail _ (.tail _ (.tail _ (.head _)))))
noncomputable def NeAll (T : Addr) (objs : List (Addr × Obj)) : Prop := ∀ p ∈ objs, p.1 ≠ T
theorem regroup_T {T : Addr} {t : Obj} {objs led : List (Addr × Obj)} (dis : ∀ q ∈ objs, ∀ r ∈ (T, t) :: led, q.1 ≠ r.1) : NeAll T objs := fun p hp => dis p hp _ (.head _)
theorem lay77 : True := by
  k_with "m:call type:tuple" => first | ((with_reducible show wpAny _ _ (call (Value.type _) [Value.ref _]) _ _ _); k_dflt (first | (refine' kde_tupleOf ?k1q7 ?k2q7 (News.isList ?k6q7 ?k7q7) ?k4q7 ?k5q7 ?_; (case k1q7 => k_asm); (case k2q7 => k_asm); (case k6q7 => k_asm); (case k7q7 => k_mem); (case k4q7 => (rw [List.size_toArray]; omega)); (case k5q7 => exact rfl); k_whole; intro D'q h'q F'q N'q l1q; (try k_lt l1q); (try k_sweep)) | (refine' call_tuple_tup (News.isTup ?k6q7 ?k7q7) ?_; (case k6q7 => k_asm); (case k7q7 => k_mem); k_whole)))
  k_with "m:call type:tuple" => ((with_reducible show wpAny _ _ (call (Value.type _) [Value.ref _]) _ _ _); (with_reducible rename GenT _ _ _ _ _ _ _ _ _ _ _ _ => gt9q); (k_dflt (refine gt9q _ _ ?_)); clear gt9q; intro D'q vs'q objs'q h'q tk'q gn'q FqA'q F'q N'q dis'q lt'q gb'q; (have N5q := regroup N'q); (have ne5q := regroup_ne (D := D'q) dis'q (by assumption)); (have lt5q := regroup_lt lt'q); (have T5q := regroup_T dis'q); clear N'q dis'q lt'q; (try k_sweep))
  k_with "m.k_mem" => first | ((repeat (first | with_reducible assumption | with_reducible exact List.mem_cons_self | apply List.mem_cons_of_mem | apply List.mem_append_right)); done)
  trivial
theorem fqpAt_list {P : Params} {q : Int} {x d D tm : Addr} {vs ms : List Value} {ns rows : List Int} {dg : Int} {t1 t2 t3 t4 t5 t6 : Tok} {objs news : List (Addr × Obj)} (FQ : FqL P q objs vs ns) (hms : IntsAre ms rows) (hdg : dg = (rows.length : Int)) :
    FqpAt P q x ns rows (((x, instObj 368 d) :: (d, p4D P q D tm dg t1 t2 t3 t4 t5 t6) :: (D, tupO vs.toArray) :: (tm, tupO ms.toArray) :: objs) ++ news) :=
  ⟨d, D, tm, vs, ms, dg, t1, t2, t3, t4, t5, t6, .head _, .tail _ (.head _), .tail _ (.tail _ (.head _)), .tail _ (.tail _ (.tail _ (.head _))), FQ.mono (fun _ h => List.mem_append_left _ (.tail _ (.tail _ (.tail _ (.tail _ h))))), hms, hdg⟩
theorem fqpAt_tup {P : Params} {q : Int} {x d D tm : Addr} {vs ms : List Value} {ns rows : List Int} {dg : Int} {t1 t2 t3 t4 t5 t6 : Tok} {objs news : List (Addr × Obj)} (FQ : FqL P q objs vs ns) (hm : (tm, tupO ms.toArray) ∈ news) (hms : IntsAre ms rows) (hdg : dg = (rows.length : Int)) :
    FqpAt P q x ns rows (((x, instObj 368 d) :: (d, p4D P q D tm dg t1 t2 t3 t4 t5 t6) :: (D, tupO vs.toArray) :: objs) ++ news) :=
  ⟨d, D, tm, vs, ms, dg, t1, t2, t3, t4, t5, t6, .head _, .tail _ (.head _), .tail _ (.tail _ (.head _)), List.mem_append_right _ hm, FQ.mono (fun _ h => List.mem_append_left _ (.tail _ (.tail _ (.tail _ h)))), hms, hdg⟩
theorem range_getD (ns : List Int) (n : Nat) (h : n = ns.length) : (List.range n).map (fun i => ns.getD i 0) = ns := by
  subst h
  apply List.ext_getElem
  · simp
  · intro i h1 h2
    simp [h2]
theorem around_lit {α : Type} {M : Model} {Y : Around} {e : Env} {os : List Env} {gd : Option (List Code)} {D U : Nat} {m : Sem α} {Q : α → Shared → Prop} {E : Value → Shared → Prop} {s : Shared} (h1 : Y.handled = none) (h2 : Y.frames = some (e :: os)) (h3 : Y.guards = gd) (hd : Y.depth ≤ D) (hu : Y.units ≤ U)
    (h : ∀ dp un, dp ≤ D → un ≤ U → wpAny M (ar dp un gd e os) m Q E s) : wpAny M Y m Q E s := by
  have : Y = ar Y.depth Y.units gd e os := by
    cases Y
    simp only at h1 h2 h3
    subst h1 h2 h3
    rfl
  rw [this]
  exact h _ _ hd hu
section
variable {w : World} {p : Program} {loose : List Str} {mean : ExcName → Option Value} {mg mb : Str → Option Value} {dp un : Nat} {gd : Option (List Code)} {A₀ : Around} {env : Env} {outer : List Env} {base h₀ : Heap} {L : Addr} {m : Str → Option Value} {s : Shared} {Q E : Value → Shared → Prop} {news : List (Addr × Obj)}
set_option maxRecDepth 100000 in
set_option maxHeartbeats 8000000 in
theorem fqp_new {l lm : Addr} {oL oM : Obj} {vs ms : List Value} {ns rows : List Int} {dn : Nat} {q : Int} {tq : Tok} {ps : Array Value}
    (hf : env.frame = some L) (hke : env.scope.kind = .function) (hdp : dp ≤ 840) (hun : un ≤ 8400)
    (B : Below A₀ base outer h₀) (F : Fr h₀ L s.heap m) (X : (hd.heap_1 w.params).In h₀) (N : News h₀ L s.heap ((267, tabObj ps) :: news)) (T : Top p loose mean mg mb h₀)
    (ht : TabX gpos ps) (C : CodeW base 271 267) (hne : ∀ p ∈ news, p.1 ≠ 267)
    (hl : (l, oL) ∈ news) (hol : (∃ cap, oL = W.listOf vs.toArray cap) ∨ oL = tupO vs.toArray) (hm : (lm, oM) ∈ news) (hom : (∃ cap, oM = W.listOf ms.toArray cap) ∨ oM = tupO ms.toArray)
    (hv : ∀ (i : Nat) v n, vs[i]? = some v → ns[i]? = some n → Coef w.params q news v n) (hms : IntsAre ms rows) (hvn : vs.length = dn) (hmn : ms.length = dn) (hnn : ns.length = dn) (hz : dn ≤ 16) (hq : 0 < q)
    (hret : ∀ (x : Addr) (objs : List (Addr × Obj)) (ps' : Array Value) (h' : Heap) (tk' : Nat) (gn : Array GenState), TabX gpos ps' → FqpAt w.params q x ns rows (objs ++ news) → (∀ p ∈ objs, p.1 ≠ 267) → Fr h₀ L h' m → News h₀ L h' (objs ++ (267, tabObj ps') :: news) → (AllBare s.gens → AllBare gn) → Q (.ref x) { s with heap := h', toks := tk', gens := gn }) :
    wpAny (model PR w) (ar dp un gd env outer) (call (.ref 368) [.ref l, .ref lm, .int q tq]) Q E s := by
  have C := C.out
  refine' call_cls ?k1 ?k2 ?k3 ?k4 ?k5 ?k6 ?_
  case k1 => k_asm
  case k2 => k_asm
  case k3 => k_asm
  case k4 => k_is
  case k5 => k_is
  case k6 => k_is
  k_whole
  intro x d h1 F1 N1 l1 l2
  k_lt l1
  k_lt2 l2
  have l2' := l1.2
  clear N
  (k_dflt (refine' code_defCB (fun y => if y = Str.ofString "field_modulus" then some (.int q tq) else if y = Str.ofString "modulus_coeffs" then some (.ref lm) else if y = Str.ofString "coeffs" then some (.ref l) else none) (fun y => if y = Str.ofString "self" then some (.ref x) else none) ?k1 ?k2 ?k3 ?k4 ?k5 ?kA ?kF ?kK ?k6 ?k7 ?k8 ?kP ?k9 ?kB ?kD ?kL ?kC ?_ ?c2 ?c3 ?c4; (case kA => exact rfl); (case kF => first | assumption | exact rfl); (case kK => first | assumption | exact rfl); (case k1 => k_asm); (case k2 => k_asm); (case k3 => k_asm); (case k4 => k_asm); (case k5 => k_asm); (case k6 => k_is); (case k7 => k_is); (case k8 => k_room); (case kP => first | exact BindsP.cons BindsP.nil | exact BindsP.cons (BindsP.cons BindsP.nil) | exact BindsP.cons (BindsP.cons (BindsP.cons BindsP.nil)) | exact BindsP.cons (BindsP.cons (BindsP.cons (BindsP.cons BindsP.nil)))); (case k9 => first | exact BindsTo.of_eq rfl | exact binds_K (by k_in) rfl (by k_is) rfl rfl rfl | fail "k_enter: no rule for these arguments"); (case kB => exact rfl); (case kD => decide +kernel); (case kL => (intro _; funext y; exact rfl)); (case kC => (intro _; funext y; exact rfl)); (case c2 => exact rfl); (case c3 => exact rfl); (case c4 => exact rfl); k_whole; intro g' L' h' tk' cells' FG' F' N' Y' B' X' T' l1; (try k_lt l1); k_cells Y'; (try simp only [List.cons_append, List.nil_append] at N'); (try dsimp only); (try k_lift B'); (first | refine let q' : Flow → Shared → Prop := _; let e' : Value → Shared → Prop := _; let o' : Around := _; let v' : Env := _; let a' : Around := Around.deeper o' v'; let s' : Shared := _; (?_ : wpAny _ a' (execs _ v') q' e' s') | skip)))
  have hnd : ∀ p ∈ news, p.1 ≠ d := fun p hp => Nat.ne_of_lt (kst_ltOf l2' p hp)
  rcases hol with ⟨cap, rfl⟩ | rfl
  · rcases hom with ⟨cap2, rfl⟩ | rfl
    · k_steps
      with_reducible rename News _ _ _ _ => N9
      have N8 := Pull.news (a := 267) (o := tabObj ps) N9 (by repeat (first | with_reducible exact Pull.here | with_reducible apply Pull.there))
      clear N9
      refine' fgen_eval (T := 267) (c := 271) (ps := ps) (its := vs.toArray) (l := l) (pm := q) (f := fun i => ns.getD i 0) ?gF ?gN ?gT ?gB ?gA ?gf ?gk ?gX ?gg ?gC ?gt ?gc ?gn ?gh ?go ?gl ?ge ?g0 ?gx ?gd ?gr ?gz ?glT ?gsr ?git ?gs ?gel ?gQ
      case gF => k_asm
      case gN => exact N8
      case gT => k_asm
      case gB => k_asm
      case gX => k_asm
      case gA => exact rfl
      case gf => exact rfl
      case gk => exact rfl
      case gg => exact rfl
      case gc => exact rfl
      case gC => kn_code
      case gt => assumption
      case gh => exact rfl
      case go => exact rfl
      case gl => exact rfl
      case ge => decide
      case g0 => exact rfl
      case gx => exact rfl
      case gd => exact rfl
      case gr => k_room
      case gs => exact fun _ => rfl
      case gz => rw [List.size_toArray]; omega
      case glT => exact hne _ hl
      case gn => ((repeat (refine List.forall_mem_cons.mpr (And.intro (by first | decide | exact Nat.ne_of_gt (by omega)) ?_))); first | with_reducible assumption | exact List.forall_mem_nil _)
      case gsr =>
        intro h k1 k2
        exact .inl ⟨_, k2 _ (.tail _ (.tail _ (.tail _ hl))), rfl, _, rfl⟩
      case git =>
        k_steps
        exact ⟨_, _, rfl, rfl, by k_asm, by k_asm⟩
      case gel =>
        intro I C bi code g i v s₂ m₂ led ps' E' hi hm2 F2 N2 hsub hTl B2 X2 T2
        refine around_lit (D := 860) (U := 8600) rfl rfl rfl ?_ ?_ fun dp2 un2 hdp2 hun2 => ?_
        · show _ + _ + _ ≤ _
          (try simp +zetaDelta only [depth_mark, depth_under_make, depth_under_kw, depth_in1, depth_deeper])
          exact (show dp + 1 + 1 + 1 ≤ 860 by omega)
        · show _ + _ + _ ≤ _
          (try simp +zetaDelta only [units_under_make, units_in1, units_deeper, Around.mark_units])
          first
            | exact (show un + 1 + 3 + 1 + 1 + 1 + 1 + 1 + 0 + 0 ≤ 8600 by omega)
            | exact (show un + 1 + 3 + 1 + 1 + 1 + 1 + 1 + 0 + 1 ≤ 8600 by omega)
            | exact (show un + 1 + 3 + 1 + 1 + 1 + 1 + 1 + 0 + 2 ≤ 8600 by omega)
            | exact (show un + 1 + 3 + 1 + 1 + 1 + 1 + 1 + 0 + 3 ≤ 8600 by omega)
            | exact (show un + 1 + 3 + 1 + 1 + 1 + 1 + 1 + 0 + 4 ≤ 8600 by omega)
            | exact (show un + 1 + 3 + 1 + 1 + 1 + 1 + 1 + 0 + 5 ≤ 8600 by omega)
        · have hn9 : ns[i]? = some (ns.getD i 0) := by
            have hlt : i < vs.length := by
              rcases Nat.lt_or_ge i vs.length with h9 | h9
              · exact h9
              · rw [List.getElem?_toArray, List.getElem?_eq_none h9] at hi; cases hi
            have hlt2 : i < ns.length := by omega
            simp [hlt2]
          rw [List.getElem?_toArray] at hi
          have hsub2 : ∀ q ∈ news, q ∈ led := fun q hq => hsub q (.tail _ (.tail _ (.tail _ hq)))
          have hs0 := hsub _ (.head _)
          have hs1 := hsub _ (.tail _ (.head _))
          have hs2 := hsub _ (.tail _ (.tail _ (.head _)))
          clear hret
          rcases hv i v _ hi hn9 with ⟨k, t, rfl, hk⟩ | ⟨a, d3, t1, t2, t3, t4, rfl, hm3, hm4⟩
          · k_steps
            rw [hk]
            exact ⟨_, _, _, _, _, _, _, _, rfl, rfl, by k_asm, by k_asm, by assumption, by assumption⟩
          · have hm5 := hsub2 _ hm3
            have hm6 := hsub2 _ hm4
            k_steps
            exact ⟨_, _, _, _, _, _, _, _, rfl, rfl, by k_asm, by k_asm, by assumption, by assumption⟩
      case gQ =>
        intro a ps' h tk gs hgs ht' F2 N2 GT
        clear N8 hl
        k_steps
        with_reducible rename FqL _ _ _ _ _ => FQ
        with_reducible rename NeAll _ _ => T5
        rw [range_getD ns _ (by rw [List.size_toArray]; omega)] at FQ
        with_reducible rename News _ _ _ _ => N7
        with_reducible rename (AllBare _ → AllBare _) => gb5
        refine' hret _ _ _ _ _ _ ht' (fqpAt_list (dg := (dn : Int)) (objs := _) FQ hms ?dg9) ?ne9 ?F9 (cb_drop N7 ?sub9) (fun hb => gb5 (AllBare.push hb hgs))
        case dg9 => rw [← hmn, hms.length]
        case sub9 =>
          intro p9 hp9
          simp only [List.mem_append, List.mem_cons, List.cons_append] at hp9
          rcases hp9 with rfl | rfl | rfl | rfl | h9 | rfl | h9
          · k_mem
          · k_mem
          · k_mem
          · k_mem
          · have h8 := List.mem_append_left news h9
            k_mem
          · k_mem
          · k_mem
        case ne9 => exact List.forall_mem_cons.mpr ⟨Nat.ne_of_gt (by omega), List.forall_mem_cons.mpr ⟨Nat.ne_of_gt (by omega), List.forall_mem_cons.mpr ⟨Nat.ne_of_gt (by omega), List.forall_mem_cons.mpr ⟨Nat.ne_of_gt (by omega), T5⟩⟩⟩⟩
        case F9 => k_asm
    · k_steps
      with_reducible rename News _ _ _ _ => N9
      have N8 := Pull.news (a := 267) (o := tabObj ps) N9 (by repeat (first | with_reducible exact Pull.here | with_reducible apply Pull.there))
      clear N9
      refine' fgen_eval (T := 267) (c := 271) (ps := ps) (its := vs.toArray) (l := l) (pm := q) (f := fun i => ns.getD i 0) ?gF ?gN ?gT ?gB ?gA ?gf ?gk ?gX ?gg ?gC ?gt ?gc ?gn ?gh ?go ?gl ?ge ?g0 ?gx ?gd ?gr ?gz ?glT ?gsr ?git ?gs ?gel ?gQ
      case gF => k_asm
      case gN => exact N8
      case gT => k_asm
      case gB => k_asm
      case gX => k_asm
      case gA => exact rfl
      case gf => exact rfl
      case gk => exact rfl
      case gg => exact rfl
      case gc => exact rfl
      case gC => kn_code
      case gt => assumption
      case gh => exact rfl
      case go => exact rfl
      case gl => exact rfl
      case ge => decide
      case g0 => exact rfl
      case gx => exact rfl
      case gd => exact rfl
      case gr => k_room
      case gs => exact fun _ => rfl
      case gz => rw [List.size_toArray]; omega
      case glT => exact hne _ hl
      case gn => ((repeat (refine List.forall_mem_cons.mpr (And.intro (by first | decide | exact Nat.ne_of_gt (by omega)) ?_))); first | with_reducible assumption | exact List.forall_mem_nil _)
      case gsr =>
        intro h k1 k2
        exact .inl ⟨_, k2 _ (.tail _ (.tail _ (.tail _ hl))), rfl, _, rfl⟩
      case git =>
        k_steps
        exact ⟨_, _, rfl, rfl, by k_asm, by k_asm⟩
      case gel =>
        intro I C bi code g i v s₂ m₂ led ps' E' hi hm2 F2 N2 hsub hTl B2 X2 T2
        refine around_lit (D := 860) (U := 8600) rfl rfl rfl ?_ ?_ fun dp2 un2 hdp2 hun2 => ?_
        · show _ + _ + _ ≤ _
          (try simp +zetaDelta only [depth_mark, depth_under_make, depth_under_kw, depth_in1, depth_deeper])
          exact (show dp + 1 + 1 + 1 ≤ 860 by omega)
        · show _ + _ + _ ≤ _
          (try simp +zetaDelta only [units_under_make, units_in1, units_deeper, Around.mark_units])
          first
            | exact (show un + 1 + 3 + 1 + 1 + 1 + 1 + 1 + 0 + 0 ≤ 8600 by omega)
            | exact (show un + 1 + 3 + 1 + 1 + 1 + 1 + 1 + 0 + 1 ≤ 8600 by omega)
            | exact (show un + 1 + 3 + 1 + 1 + 1 + 1 + 1 + 0 + 2 ≤ 8600 by omega)
            | exact (show un + 1 + 3 + 1 + 1 + 1 + 1 + 1 + 0 + 3 ≤ 8600 by omega)
            | exact (show un + 1 + 3 + 1 + 1 + 1 + 1 + 1 + 0 + 4 ≤ 8600 by omega)
            | exact (show un + 1 + 3 + 1 + 1 + 1 + 1 + 1 + 0 + 5 ≤ 8600 by omega)
        · have hn9 : ns[i]? = some (ns.getD i 0) := by
            have hlt : i < vs.length := by
              rcases Nat.lt_or_ge i vs.length with h9 | h9
              · exact h9
              · rw [List.getElem?_toArray, List.getElem?_eq_none h9] at hi; cases hi
            have hlt2 : i < ns.length := by omega
            simp [hlt2]
          rw [List.getElem?_toArray] at hi
          have hsub2 : ∀ q ∈ news, q ∈ led := fun q hq => hsub q (.tail _ (.tail _ (.tail _ hq)))
          have hs0 := hsub _ (.head _)
          have hs1 := hsub _ (.tail _ (.head _))
          have hs2 := hsub _ (.tail _ (.tail _ (.head _)))
          clear hret
          rcases hv i v _ hi hn9 with ⟨k, t, rfl, hk⟩ | ⟨a, d3, t1, t2, t3, t4, rfl, hm3, hm4⟩
          · k_steps
            rw [hk]
            exact ⟨_, _, _, _, _, _, _, _, rfl, rfl, by k_asm, by k_asm, by assumption, by assumption⟩
          · have hm5 := hsub2 _ hm3
            have hm6 := hsub2 _ hm4
            k_steps
            exact ⟨_, _, _, _, _, _, _, _, rfl, rfl, by k_asm, by k_asm, by assumption, by assumption⟩
      case gQ =>
        intro a ps' h tk gs hgs ht' F2 N2 GT
        clear N8 hl
        k_steps
        with_reducible rename FqL _ _ _ _ _ => FQ
        with_reducible rename NeAll _ _ => T5
        rw [range_getD ns _ (by rw [List.size_toArray]; omega)] at FQ
        with_reducible rename News _ _ _ _ => N7
        with_reducible rename (AllBare _ → AllBare _) => gb5
        refine' hret _ _ _ _ _ _ ht' (fqpAt_tup (dg := (dn : Int)) (objs := _) FQ hm hms ?dg9) ?ne9 ?F9 (cb_drop N7 ?sub9) (fun hb => gb5 (AllBare.push hb hgs))
        case dg9 => rw [← hmn, hms.length]
        case sub9 =>
          intro p9 hp9
          simp only [List.mem_append, List.mem_cons, List.cons_append] at hp9
          rcases hp9 with rfl | rfl | rfl | h9 | rfl | h9
          · k_mem
          · k_mem
          · k_mem
          · have h8 := List.mem_append_left news h9
            k_mem
          · k_mem
          · k_mem
        case ne9 => exact List.forall_mem_cons.mpr ⟨Nat.ne_of_gt (by omega), List.forall_mem_cons.mpr ⟨Nat.ne_of_gt (by omega), List.forall_mem_cons.mpr ⟨Nat.ne_of_gt (by omega), T5⟩⟩⟩
        case F9 => k_asm
  · rcases hom with ⟨cap2, rfl⟩ | rfl
    · k_steps
      with_reducible rename News _ _ _ _ => N9
      have N8 := Pull.news (a := 267) (o := tabObj ps) N9 (by repeat (first | with_reducible exact Pull.here | with_reducible apply Pull.there))
      clear N9
      refine' fgen_eval (T := 267) (c := 271) (ps := ps) (its := vs.toArray) (l := l) (pm := q) (f := fun i => ns.getD i 0) ?gF ?gN ?gT ?gB ?gA ?gf ?gk ?gX ?gg ?gC ?gt ?gc ?gn ?gh ?go ?gl ?ge ?g0 ?gx ?gd ?gr ?gz ?glT ?gsr ?git ?gs ?gel ?gQ
      case gF => k_asm
      case gN => exact N8
      case gT => k_asm
      case gB => k_asm
      case gX => k_asm
      case gA => exact rfl
      case gf => exact rfl
      case gk => exact rfl
      case gg => exact rfl
      case gc => exact rfl
      case gC => kn_code
      case gt => assumption
      case gh => exact rfl
      case go => exact rfl
      case gl => exact rfl
      case ge => decide
      case g0 => exact rfl
      case gx => exact rfl
      case gd => exact rfl
      case gr => k_room
      case gs => exact fun _ => rfl
      case gz => rw [List.size_toArray]; omega
      case glT => exact hne _ hl
      case gn => ((repeat (refine List.forall_mem_cons.mpr (And.intro (by first | decide | exact Nat.ne_of_gt (by omega)) ?_))); first | with_reducible assumption | exact List.forall_mem_nil _)
      case gsr =>
        intro h k1 k2
        exact .inr ⟨_, k2 _ (.tail _ (.tail _ (.tail _ hl))), rfl, _, rfl⟩
      case git =>
        k_steps
        exact ⟨_, _, rfl, rfl, by k_asm, by k_asm⟩
      case gel =>
        intro I C bi code g i v s₂ m₂ led ps' E' hi hm2 F2 N2 hsub hTl B2 X2 T2
        refine around_lit (D := 860) (U := 8600) rfl rfl rfl ?_ ?_ fun dp2 un2 hdp2 hun2 => ?_
        · show _ + _ + _ ≤ _
          (try simp +zetaDelta only [depth_mark, depth_under_make, depth_under_kw, depth_in1, depth_deeper])
          exact (show dp + 1 + 1 + 1 ≤ 860 by omega)
        · show _ + _ + _ ≤ _
          (try simp +zetaDelta only [units_under_make, units_in1, units_deeper, Around.mark_units])
          first
            | exact (show un + 1 + 3 + 1 + 1 + 1 + 1 + 1 + 0 + 0 ≤ 8600 by omega)
            | exact (show un + 1 + 3 + 1 + 1 + 1 + 1 + 1 + 0 + 1 ≤ 8600 by omega)
            | exact (show un + 1 + 3 + 1 + 1 + 1 + 1 + 1 + 0 + 2 ≤ 8600 by omega)
            | exact (show un + 1 + 3 + 1 + 1 + 1 + 1 + 1 + 0 + 3 ≤ 8600 by omega)
            | exact (show un + 1 + 3 + 1 + 1 + 1 + 1 + 1 + 0 + 4 ≤ 8600 by omega)
            | exact (show un + 1 + 3 + 1 + 1 + 1 + 1 + 1 + 0 + 5 ≤ 8600 by omega)
        · have hn9 : ns[i]? = some (ns.getD i 0) := by
            have hlt : i < vs.length := by
              rcases Nat.lt_or_ge i vs.length with h9 | h9
              · exact h9
              · rw [List.getElem?_toArray, List.getElem?_eq_none h9] at hi; cases hi
            have hlt2 : i < ns.length := by omega
            simp [hlt2]
          rw [List.getElem?_toArray] at hi
          have hsub2 : ∀ q ∈ news, q ∈ led := fun q hq => hsub q (.tail _ (.tail _ (.tail _ hq)))
          have hs0 := hsub _ (.head _)
          have hs1 := hsub _ (.tail _ (.head _))
          have hs2 := hsub _ (.tail _ (.tail _ (.head _)))
          clear hret
          rcases hv i v _ hi hn9 with ⟨k, t, rfl, hk⟩ | ⟨a, d3, t1, t2, t3, t4, rfl, hm3, hm4⟩
          · k_steps
            rw [hk]
            exact ⟨_, _, _, _, _, _, _, _, rfl, rfl, by k_asm, by k_asm, by assumption, by assumption⟩
          · have hm5 := hsub2 _ hm3
            have hm6 := hsub2 _ hm4
            k_steps
            exact ⟨_, _, _, _, _, _, _, _, rfl, rfl, by k_asm, by k_asm, by assumption, by assumption⟩
      case gQ =>
        intro a ps' h tk gs hgs ht' F2 N2 GT
        clear N8 hl
        k_steps
        with_reducible rename FqL _ _ _ _ _ => FQ
        with_reducible rename NeAll _ _ => T5
        rw [range_getD ns _ (by rw [List.size_toArray]; omega)] at FQ
        with_reducible rename News _ _ _ _ => N7
        with_reducible rename (AllBare _ → AllBare _) => gb5
        refine' hret _ _ _ _ _ _ ht' (fqpAt_list (dg := (dn : Int)) (objs := _) FQ hms ?dg9) ?ne9 ?F9 (cb_drop N7 ?sub9) (fun hb => gb5 (AllBare.push hb hgs))
        case dg9 => rw [← hmn, hms.length]
        case sub9 =>
          intro p9 hp9
          simp only [List.mem_append, List.mem_cons, List.cons_append] at hp9
          rcases hp9 with rfl | rfl | rfl | rfl | h9 | rfl | h9
          · k_mem
          · k_mem
          · k_mem
          · k_mem
          · have h8 := List.mem_append_left news h9
            k_mem
          · k_mem
          · k_mem
        case ne9 => exact List.forall_mem_cons.mpr ⟨Nat.ne_of_gt (by omega), List.forall_mem_cons.mpr ⟨Nat.ne_of_gt (by omega), List.forall_mem_cons.mpr ⟨Nat.ne_of_gt (by omega), List.forall_mem_cons.mpr ⟨Nat.ne_of_gt (by omega), T5⟩⟩⟩⟩
        case F9 => k_asm
    · k_steps
      with_reducible rename News _ _ _ _ => N9
      have N8 := Pull.news (a := 267) (o := tabObj ps) N9 (by repeat (first | with_reducible exact Pull.here | with_reducible apply Pull.there))
      clear N9
      refine' fgen_eval (T := 267) (c := 271) (ps := ps) (its := vs.toArray) (l := l) (pm := q) (f := fun i => ns.getD i 0) ?gF ?gN ?gT ?gB ?gA ?gf ?gk ?gX ?gg ?gC ?gt ?gc ?gn ?gh ?go ?gl ?ge ?g0 ?gx ?gd ?gr ?gz ?glT ?gsr ?git ?gs ?gel ?gQ
      case gF => k_asm
      case gN => exact N8
      case gT => k_asm
      case gB => k_asm
      case gX => k_asm
      case gA => exact rfl
      case gf => exact rfl
      case gk => exact rfl
      case gg => exact rfl
      case gc => exact rfl
      case gC => kn_code
      case gt => assumption
      case gh => exact rfl
      case go => exact rfl
      case gl => exact rfl
      case ge => decide
      case g0 => exact rfl
      case gx => exact rfl
      case gd => exact rfl
      case gr => k_room
      case gs => exact fun _ => rfl
      case gz => rw [List.size_toArray]; omega
      case glT => exact hne _ hl
      case gn => ((repeat (refine List.forall_mem_cons.mpr (And.intro (by first | decide | exact Nat.ne_of_gt (by omega)) ?_))); first | with_reducible assumption | exact List.forall_mem_nil _)
      case gsr =>
        intro h k1 k2
        exact .inr ⟨_, k2 _ (.tail _ (.tail _ (.tail _ hl))), rfl, _, rfl⟩
      case git =>
        k_steps
        exact ⟨_, _, rfl, rfl, by k_asm, by k_asm⟩
      case gel =>
        intro I C bi code g i v s₂ m₂ led ps' E' hi hm2 F2 N2 hsub hTl B2 X2 T2
        refine around_lit (D := 860) (U := 8600) rfl rfl rfl ?_ ?_ fun dp2 un2 hdp2 hun2 => ?_
        · show _ + _ + _ ≤ _
          (try simp +zetaDelta only [depth_mark, depth_under_make, depth_under_kw, depth_in1, depth_deeper])
          exact (show dp + 1 + 1 + 1 ≤ 860 by omega)
        · show _ + _ + _ ≤ _
          (try simp +zetaDelta only [units_under_make, units_in1, units_deeper, Around.mark_units])
          first
            | exact (show un + 1 + 3 + 1 + 1 + 1 + 1 + 1 + 0 + 0 ≤ 8600 by omega)
            | exact (show un + 1 + 3 + 1 + 1 + 1 + 1 + 1 + 0 + 1 ≤ 8600 by omega)
            | exact (show un + 1 + 3 + 1 + 1 + 1 + 1 + 1 + 0 + 2 ≤ 8600 by omega)
            | exact (show un + 1 + 3 + 1 + 1 + 1 + 1 + 1 + 0 + 3 ≤ 8600 by omega)
            | exact (show un + 1 + 3 + 1 + 1 + 1 + 1 + 1 + 0 + 4 ≤ 8600 by omega)
            | exact (show un + 1 + 3 + 1 + 1 + 1 + 1 + 1 + 0 + 5 ≤ 8600 by omega)
        · have hn9 : ns[i]? = some (ns.getD i 0) := by
            have hlt : i < vs.length := by
              rcases Nat.lt_or_ge i vs.length with h9 | h9
              · exact h9
              · rw [List.getElem?_toArray, List.getElem?_eq_none h9] at hi; cases hi
            have hlt2 : i < ns.length := by omega
            simp [hlt2]
          rw [List.getElem?_toArray] at hi
          have hsub2 : ∀ q ∈ news, q ∈ led := fun q hq => hsub q (.tail _ (.tail _ (.tail _ hq)))
          have hs0 := hsub _ (.head _)
          have hs1 := hsub _ (.tail _ (.head _))
          have hs2 := hsub _ (.tail _ (.tail _ (.head _)))
          clear hret
          rcases hv i v _ hi hn9 with ⟨k, t, rfl, hk⟩ | ⟨a, d3, t1, t2, t3, t4, rfl, hm3, hm4⟩
          · k_steps
            rw [hk]
            exact ⟨_, _, _, _, _, _, _, _, rfl, rfl, by k_asm, by k_asm, by assumption, by assumption⟩
          · have hm5 := hsub2 _ hm3
            have hm6 := hsub2 _ hm4
            k_steps
            exact ⟨_, _, _, _, _, _, _, _, rfl, rfl, by k_asm, by k_asm, by assumption, by assumption⟩
      case gQ =>
        intro a ps' h tk gs hgs ht' F2 N2 GT
        clear N8 hl
        k_steps
        with_reducible rename FqL _ _ _ _ _ => FQ
        with_reducible rename NeAll _ _ => T5
        rw [range_getD ns _ (by rw [List.size_toArray]; omega)] at FQ
        with_reducible rename News _ _ _ _ => N7
        with_reducible rename (AllBare _ → AllBare _) => gb5
        refine' hret _ _ _ _ _ _ ht' (fqpAt_tup (dg := (dn : Int)) (objs := _) FQ hm hms ?dg9) ?ne9 ?F9 (cb_drop N7 ?sub9) (fun hb => gb5 (AllBare.push hb hgs))
        case dg9 => rw [← hmn, hms.length]
        case sub9 =>
          intro p9 hp9
          simp only [List.mem_append, List.mem_cons, List.cons_append] at hp9
          rcases hp9 with rfl | rfl | rfl | h9 | rfl | h9
          · k_mem
          · k_mem
          · k_mem
          · have h8 := List.mem_append_left news h9
            k_mem
          · k_mem
          · k_mem
        case ne9 => exact List.forall_mem_cons.mpr ⟨Nat.ne_of_gt (by omega), List.forall_mem_cons.mpr ⟨Nat.ne_of_gt (by omega), List.forall_mem_cons.mpr ⟨Nat.ne_of_gt (by omega), T5⟩⟩⟩
        case F9 => k_asm
end

-- piece fqll
noncomputable def InQ (q : Int) (ns : List Int) : Prop := ∀ n ∈ ns, 0 ≤ n ∧ n < q
theorem InQ.get {q : Int} {ns : List Int} {i : Nat} (h : InQ q ns) (hi : i < ns.length) : 0 ≤ ns.getD i 0 ∧ ns.getD i 0 < q := by
  have e : ns.getD i 0 = ns[i] := by simp [hi]
  rw [e]
  exact h _ (List.getElem_mem hi)
theorem InQ.set {q : Int} {ns : List Int} {i : Nat} {n : Int} (h : InQ q ns) (h0 : 0 ≤ n) (h1 : n < q) : InQ q (ns.set i n) := by
  intro v hv
  rcases List.mem_or_eq_of_mem_set hv with hv | rfl
  · exact h v hv
  · exact ⟨h0, h1⟩
theorem ki_setL_some : ∀ (l : List Value) (k : Nat) (v : Value), k < l.length → ki_setL l k v = some (l.set k v)
  | [], k, v, h => absurd h (Nat.not_lt_zero _)
  | x :: r, 0, v, _ => rfl
  | x :: r, k + 1, v, h => by
    unfold ki_setL
    rw [ki_setL_some r k v (Nat.lt_of_succ_lt_succ h)]
    rfl
theorem kl_last_snoc : ∀ (p : List Value) (y : Value), kl_last (p ++ [y]) = some (p, y)
  | [], y => rfl
  | x :: r, y => by
    rw [List.cons_append]
    unfold kl_last
    rw [kl_last_snoc r y]
theorem FqL.get {P : Params} {q : Int} {objs : List (Addr × Obj)} {vs : List Value} {ns : List Int} (FQ : FqL P q objs vs ns) {i : Nat} (hi : i < ns.length) :
    ∃ a d t1 t2 t3 t4, vs[i]? = some (.ref a) ∧ (a, instObj 254 d) ∈ objs ∧ (d, fqD P q (ns.getD i 0) t1 t2 t3 t4) ∈ objs := FQ.2 i _ (by simp [hi])
theorem FqL.set {P : Params} {q : Int} {objs : List (Addr × Obj)} {vs : List Value} {ns : List Int} {k : Nat} {a d : Addr} {n : Int} {t1 t2 t3 t4 : Tok} (FQ : FqL P q objs vs ns) :
    FqL P q ((a, instObj 254 d) :: (d, fqD P q n t1 t2 t3 t4) :: objs) (vs.set k (.ref a)) (ns.set k n) := by
  refine ⟨by simp [FQ.1], fun i m hm => ?_⟩
  by_cases e : k = i
  · subst e
    have hk : k < ns.length := by
      rcases Nat.lt_or_ge k ns.length with h | h
      · exact h
      · rw [List.getElem?_eq_none (by simpa using h)] at hm; cases hm
    have e1 : n = m := by simpa [hk] using hm
    subst e1
    exact ⟨a, d, t1, t2, t3, t4, by simp [FQ.1, hk], .head _, .tail _ (.head _)⟩
  · rw [List.getElem?_set_ne e] at hm
    obtain ⟨a', d', s1, s2, s3, s4, h1, h2, h3⟩ := FQ.2 i m hm
    exact ⟨a', d', s1, s2, s3, s4, by rw [List.getElem?_set_ne e]; exact h1, .tail _ (.tail _ h2), .tail _ (.tail _ h3)⟩
theorem FqL.drop {P : Params} {q : Int} {objs : List (Addr × Obj)} {vs : List Value} {ns : List Int} (FQ : FqL P q objs vs ns) : FqL P q objs vs.dropLast ns.dropLast := by
  refine ⟨by simp [FQ.1], fun i m hm => ?_⟩
  have hi : i < ns.dropLast.length := by
    rcases Nat.lt_or_ge i ns.dropLast.length with h | h
    · exact h
    · rw [List.getElem?_eq_none h] at hm; cases hm
  have hi2 : i < ns.length - 1 := by simpa using hi
  have e1 : ns[i]? = some m := by
    rw [← hm]
    simp [List.getElem?_dropLast, hi2]
  obtain ⟨a', d', s1, s2, s3, s4, h1, h2, h3⟩ := FQ.2 i m e1
  exact ⟨a', d', s1, s2, s3, s4, by rw [← h1]; simp [List.getElem?_dropLast, FQ.1, hi2], h2, h3⟩
section
variable {prog : Program} {w : World} {A : Around} {E : Value → Shared → Prop} {s : Shared} {h₀ : Heap} {L : Addr} {m : Str → Option Value}
theorem seq_nat {i n : Nat} (h : i < n) : seqIndex? (i : Int) n = some i := by
  have e := seqIndex_of (k := (i : Int)) (n := n) (by omega) (by omega)
  rwa [Int.toNat_natCast] at e
theorem fql_tup {P : Params} {q : Int} {objs news : List (Addr × Obj)} {vs : List Value} {ns : List Int} {value slice : PySem.Expr} {t : Addr} {k : Int} {i : Nat} {u : Tok} {Q : Value → Shared → Prop}
    (FQ : FqL P q objs vs ns) (N : News h₀ L s.heap news) (hm : (t, tupO vs.toArray) ∈ news) (hk : k = (i : Int)) (hi : i < ns.length) (hz : i < 1000) (hq : InQ q ns)
    (h : ∀ a d n t1 t2 t3 t4, (a, instObj 254 d) ∈ objs → (d, fqD P q n t1 t2 t3 t4) ∈ objs → n = ns.getD i 0 → 0 ≤ n → n < q → Q (.ref a) s)
    (hs : subscripted slice false (.ref t) (.int k u) = operate [.ref t, .int k u] (getItem (.ref t) (.int k u)) := by with_unfolding_all rfl) (hg : ∀ r, letTemporaryGo value (.ref t) r = pure () := by intro _; with_unfolding_all rfl) :
    wpAny (model prog w) A (subscriptTail value slice (.ref t) (.int k u)) Q E s := by
  subst hk
  obtain ⟨a, d, t1, t2, t3, t4, e, m1, m2⟩ := FQ.get hi
  have hb := hq.get hi
  exact kim_tup N hm rfl rfl (by omega) (by omega) (seq_nat (by rw [FQ.1]; exact hi)) e (h a d _ t1 t2 t3 t4 m1 m2 rfl hb.1 hb.2) hs hg
theorem fql_get {P : Params} {q : Int} {objs news : List (Addr × Obj)} {vs : List Value} {ns : List Int} {cap : Nat} {t : Addr} {k : Int} {i : Nat} {u : Tok} {Q : Value → Shared → Prop}
    (FQ : FqL P q objs vs ns) (N : News h₀ L s.heap news) (hm : (t, W.listOf vs.toArray cap) ∈ news) (hk : k = (i : Int)) (hi : i < ns.length) (hz : i < 1000) (hq : InQ q ns)
    (h : ∀ a d n t1 t2 t3 t4, (a, instObj 254 d) ∈ objs → (d, fqD P q n t1 t2 t3 t4) ∈ objs → n = ns.getD i 0 → 0 ≤ n → n < q → Q (.ref a) s) :
    wpAny (model prog w) A (getItem (.ref t) (.int k u)) Q E s := by
  subst hk
  obtain ⟨a, d, t1, t2, t3, t4, e, m1, m2⟩ := FQ.get hi
  have hb := hq.get hi
  exact wpAny_getItem_list (News.isList N hm) (by omega) (by omega) (by rw [Int.toNat_natCast, List.getElem?_toArray]; exact e) (h a d _ t1 t2 t3 t4 m1 m2 rfl hb.1 hb.2)
theorem ints_get {vs : List Value} {ns : List Int} (I : IntsAre vs ns) : ∀ {i : Nat}, i < ns.length → ∃ t9, vs[i]? = some (.int (ns.getD i 0) t9) := by
  induction I with
  | nil => exact fun hi => absurd hi (Nat.not_lt_zero _)
  | cons n t _ ih =>
    intro i hi
    cases i with
    | zero => exact ⟨_, rfl⟩
    | succ i =>
      obtain ⟨t9, e⟩ := ih (Nat.lt_of_succ_lt_succ hi)
      exact ⟨t9, e⟩
theorem fql_set {bl : Addr} {all rest : List (Addr × Obj)} {vs : List Value} {cap : Nat} {k : Int} {j : Nat} {t : Tok} {v : Value} {Q : Unit → Shared → Prop} (F : Fr h₀ L s.heap m) (N : News h₀ L s.heap all) (P : Pull bl (W.listOf vs.toArray cap) all rest) (hne : ∀ p ∈ rest, p.1 ≠ bl) (hk : k = (j : Int)) (hj : j < vs.length) (hz : j < 1000)
    (h : ∀ h', Fr h₀ L h' m → News h₀ L h' ((bl, W.listOf (vs.set j v).toArray cap) :: rest) → Q () { s with heap := h' }) : wpAny (model prog w) A (setItem (.ref bl) (.int k t) v) Q E s := by
  subst hk
  refine ki_set F (Pull.news N P) (by omega) (by omega) (q := vs.set j v) ?_ (.head hne) h
  rw [Int.toNat_natCast]
  exact ki_setL_some vs j v hj
theorem fql_pop {P : Params} {q : Int} {bl : Addr} {objs all rest : List (Addr × Obj)} {vs : List Value} {ns : List Int} {cap : Nat} {Q : Value → Shared → Prop} (FQ : FqL P q objs vs ns) (hq : InQ q ns) (F : Fr h₀ L s.heap m) (N : News h₀ L s.heap all) (Pl : Pull bl (W.listOf vs.toArray cap) all rest) (hne : ∀ p ∈ rest, p.1 ≠ bl) (h1 : 1 ≤ ns.length) (hz : ns.length ≤ 1000)
    (h : ∀ a d n t1 t2 t3 t4 h', (a, instObj 254 d) ∈ objs → (d, fqD P q n t1 t2 t3 t4) ∈ objs → n = ns.getD (ns.length - 1) 0 → 0 ≤ n → n < q → FqL P q objs vs.dropLast ns.dropLast → InQ q ns.dropLast → Fr h₀ L h' m → News h₀ L h' ((bl, W.listOf vs.dropLast.toArray (cap + 1)) :: rest) → Q (.ref a) { s with heap := h' }) :
    wpAny (model prog w) A (call (.builtin "list.pop") [.ref bl]) Q E s := by
  obtain ⟨a, d, t1, t2, t3, t4, e, m1, m2⟩ := FQ.get (i := ns.length - 1) (by omega)
  have hb := hq.get (i := ns.length - 1) (by omega)
  have hv : vs = vs.dropLast ++ [.ref a] := by
    have hl : vs.length = ns.length := FQ.1
    have hne2 : vs ≠ [] := by intro h9; rw [h9] at hl; simp at hl; omega
    have e2 : vs.getLast hne2 = .ref a := by
      rw [List.getLast_eq_getElem]
      have : vs[ns.length - 1]? = some (vs[vs.length - 1]'(by omega)) := by rw [← hl]; simp
      rw [this] at e
      exact Option.some.inj e
    rw [← e2]
    exact (List.dropLast_concat_getLast hne2).symm
  refine kl_pop F (Pull.news N Pl) (p := vs.dropLast) (y := .ref a) ?_ (.head hne) ?_ fun h' F' N' => h a d _ t1 t2 t3 t4 h' m1 m2 rfl hb.1 hb.2 FQ.drop (fun n hn => hq n (List.dropLast_subset _ hn)) F' N'
  · show kl_last vs.toArray.toList = _
    rw [hv]
    simpa using kl_last_snoc vs.dropLast (.ref a)
  · show vs.toArray.toList.length ≤ _
    rw [sizeLine_eq]
    have := FQ.1
    simp
    omega
end

-- piece forl
inductive Seven9 (cm : Str → Option Value) (n₁ n₂ n₃ n₄ n₅ n₆ n₇ : Str) (c₁ c₂ c₃ c₄ c₅ c₆ c₇ : Addr) (cells : List (Addr × Obj)) : Prop
  | mk : ∀ o₁ o₂ o₃ o₄ o₅ o₆ o₇, cells = [(c₁, o₁), (c₂, o₂), (c₃, o₃), (c₄, o₄), (c₅, o₅), (c₆, o₆), (c₇, o₇)] → o₁.data = .cell (cm n₁) → o₂.data = .cell (cm n₂) → o₃.data = .cell (cm n₃) → o₄.data = .cell (cm n₄) → o₅.data = .cell (cm n₅) → o₆.data = .cell (cm n₆) → o₇.data = .cell (cm n₇) → Seven9 cm n₁ n₂ n₃ n₄ n₅ n₆ n₇ c₁ c₂ c₃ c₄ c₅ c₆ c₇ cells
theorem cells_un {P : Prop} {cm : Str → Option Value} {n : Str} {c : Addr} {r : List (Str × Addr)} {cells : List (Addr × Obj)} (x : CellsAre cm ((n, c) :: r) cells) (k : ∀ o t, cells = (c, o) :: t → o.data = .cell (cm n) → CellsAre cm r t → P) : P := by
  cases x with
  | cons h1 x => exact k _ _ rfl h1 x
theorem cells_nil {cm : Str → Option Value} {cells : List (Addr × Obj)} (x : CellsAre cm [] cells) : cells = [] := by
  cases x; rfl
theorem CellsAre.seven9 {cm : Str → Option Value} {n₁ n₂ n₃ n₄ n₅ n₆ n₇ : Str} {c₁ c₂ c₃ c₄ c₅ c₆ c₇ : Addr} {cells : List (Addr × Obj)} (x : CellsAre cm [(n₁, c₁), (n₂, c₂), (n₃, c₃), (n₄, c₄), (n₅, c₅), (n₆, c₆), (n₇, c₇)] cells) : Seven9 cm n₁ n₂ n₃ n₄ n₅ n₆ n₇ c₁ c₂ c₃ c₄ c₅ c₆ c₇ cells :=
  cells_un x fun o1 _ e1 d1 x => cells_un x fun o2 _ e2 d2 x => cells_un x fun o3 _ e3 d3 x => cells_un x fun o4 _ e4 d4 x => cells_un x fun o5 _ e5 d5 x => cells_un x fun o6 _ e6 d6 x => cells_un x fun o7 _ e7 d7 x =>
    ⟨o1, o2, o3, o4, o5, o6, o7, by rw [e1, e2, e3, e4, e5, e6, e7, cells_nil x], d1, d2, d3, d4, d5, d6, d7⟩
theorem ints_at {vs : List Value} {ns : List Int} (I : IntsAre vs ns) : ∀ {i : Nat}, i < ns.length → ∃ t9, vs[i]? = some (.int (ns.getD i 0) t9) := by
  induction I with
  | nil => exact fun hi => absurd hi (Nat.not_lt_zero _)
  | cons n t _ ih =>
    intro i hi
    cases i with
    | zero => exact ⟨_, rfl⟩
    | succ i =>
      obtain ⟨t9, e⟩ := ih (Nat.lt_of_succ_lt_succ hi)
      exact ⟨t9, e⟩
inductive ForLEnd (h₀ : Heap) (L I ax cc : Addr) (oI lo : Obj) (m : Str → Option Value) (J : List (Addr × Obj) → Prop) (s₁ s₂ : Shared) : Prop
  | mk : ∀ h' tk nw oc v, (s₂ = { s₁ with heap := h', toks := tk }) → (Fr h₀ L h' m) → (News h₀ L h' ((I, oI) :: (ax, lo) :: (cc, oc) :: nw)) → (oc.data = .cell v) → ((∀ p ∈ nw, p.1 ≠ I ∧ p.1 ≠ ax ∧ p.1 ≠ cc)) → (J nw) → ForLEnd h₀ L I ax cc oI lo m J s₁ s₂
noncomputable def ForLPost (h₀ : Heap) (L I ax cc : Addr) (oI lo : Obj) (m : Str → Option Value) (J : List (Addr × Obj) → Prop) (s₁ : Shared) (Q : Flow → Shared → Prop) (f : Flow) (s₂ : Shared) : Prop :=
  match f with
  | .ret v => Q (.ret v) s₂
  | .brk => Q .next s₂
  | _ => ForLEnd h₀ L I ax cc oI lo m J s₁ s₂
theorem ForLEnd.intro {h₀ : Heap} {L I ax cc : Addr} {oI lo oc : Obj} {m : Str → Option Value} {J : List (Addr × Obj) → Prop} {s₁ : Shared} {h' : Heap} {tk : Nat} {nw all : List (Addr × Obj)} {v : Option Value}
    (F : Fr h₀ L h' m) (N : News h₀ L h' all) (sub : ∀ p ∈ (I, oI) :: (ax, lo) :: (cc, oc) :: nw, p ∈ all) (hd : oc.data = .cell v) (off : ∀ p ∈ nw, p.1 ≠ I ∧ p.1 ≠ ax ∧ p.1 ≠ cc) (j : J nw) : ForLEnd h₀ L I ax cc oI lo m J s₁ { s₁ with heap := h', toks := tk } :=
  ⟨h', tk, nw, oc, v, rfl, F, fun p hp => N p (sub p hp), hd, off, j⟩
section
variable {prog : Program} {w : World} {A : Around} {E : Value → Shared → Prop} {s : Shared} {env : Env} {h₀ : Heap} {x : Str} {body : List Stmt} {Q : Flow → Shared → Prop} {cc : Addr}
inductive ForL (prog : Program) (w : World) (A : Around) (h₀ : Heap) (env : Env) (cc : Addr) (body : List Stmt) (Q : Flow → Shared → Prop) (E : Value → Shared → Prop) (xv : Value) (s₁ : Shared) : Prop
  | mk : ∀ (ax : Addr) (vs : List Value) (ks : List Int) (cap : Nat) (m₀ : Str → Option Value) (news : List (Addr × Obj)) (oc : Obj) (v0 : Option Value) (J : Nat → List (Addr × Obj) → Prop), (xv = .ref ax) → (Fr h₀ env.locals s₁.heap m₀) → (News h₀ env.locals s₁.heap ((ax, W.listOf vs.toArray cap) :: (cc, oc) :: news)) → (oc.data = .cell v0) → (ax ≠ cc) → ((∀ p ∈ news, p.1 ≠ ax ∧ p.1 ≠ cc)) → (IntsAre vs ks) → (J 0 news) → ((∀ (I : Addr) (i : Nat) (k : Int) (t : Tok) oI oc v nw h tk, i < ks.length → k = ks.getD i 0 → (∀ p ∈ (ax, W.listOf vs.toArray cap) :: (cc, oc) :: news, p.1 < I) → J i nw → oc.data = .cell v → v = some (.int k t) → (∀ p ∈ nw, p.1 ≠ I ∧ p.1 ≠ ax ∧ p.1 ≠ cc) → Fr h₀ env.locals h m₀ → News h₀ env.locals h ((I, oI) :: (ax, W.listOf vs.toArray cap) :: (cc, oc) :: nw) → wpAny (model prog w) A (execs body env) (ForLPost h₀ env.locals I ax cc oI (W.listOf vs.toArray cap) m₀ (J (i + 1)) { s₁ with heap := h, toks := tk } Q) E { s₁ with heap := h, toks := tk })) → ((∀ h tk nw oc v, J ks.length nw → Fr h₀ env.locals h m₀ → News h₀ env.locals h ((ax, W.listOf vs.toArray cap) :: (cc, oc) :: nw) → oc.data = .cell v → Q .next { s₁ with heap := h, toks := tk })) → ForL prog w A h₀ env cc body Q E xv s₁
inductive ForLSt (s₁ : Shared) (It ax : Addr) (vs : List Value) (h₀ : Heap) (L : Addr) (m₀ : Str → Option Value) (lo : Obj) (cc : Addr) (J : Nat → List (Addr × Obj) → Prop) (n k : Nat) (s' : Shared) : Prop
  | mk : ∀ h' tk nw oc v i, s' = { s₁ with heap := h', toks := tk } → (h'.IsListIter It ax i ∧ h'.IsList ax vs.toArray) → Fr h₀ L h' m₀ → News h₀ L h' ((ax, lo) :: (cc, oc) :: nw) → oc.data = .cell v → (∀ p ∈ nw, p.1 ≠ It ∧ p.1 ≠ ax ∧ p.1 ≠ cc) → J i nw → i ≤ n → k = n + 1 - i → ForLSt s₁ It ax vs h₀ L m₀ lo cc J n k s'
theorem For_LC {m : Str → Option Value} {px pos : Pos} {iter : PySem.Expr} (_F : Fr h₀ env.locals s.heap m) (hh : A.handled = none) (hk : env.scope.kind = .function) (hx : env.kindOf x = some .cell) (hc : env.cells.lookup x = some cc)
    (h : wpAny (model prog w) A (eval iter env) (fun xv s₁ => ForL prog w A h₀ env cc body Q E xv s₁) E s)
    (hs : ∀ x, foldedSetIterable iter env x = pure x := by intro _; rfl)
    (hE : PassesOwn (model prog w) A env E := by passes_own) :
    wpAny (model prog w) A (exec (.For (.Name x px) iter body [] pos) env) Q E s := by
  refine wpAny_For (wpAny_mono h (fun xv s₁ h₁ => ?_) fun _ _ e => e) hs
  obtain ⟨ax, vs, ks, cap, m₀, news, oc₀, v0, J, rfl, F, N, hoc, hac, hoff0, hI, h0, step, hQ⟩ := h₁
  have hl : s₁.heap.IsList ax vs.toArray := ⟨_, (N _ (.head _)).1, rfl, _, rfl⟩
  have hlt : ax < s₁.heap.objs.size := by obtain ⟨_, e, _⟩ := hl; exact Heap.lt_size e
  refine wpAny_pyIter_list hl ?_
  have hnew : h₀.get? s₁.heap.objs.size = none := next_is_new F
  have hLne : env.locals ≠ s₁.heap.objs.size := Nat.ne_of_lt F.ns.lt
  have hnI : ∀ p ∈ (ax, W.listOf vs.toArray cap) :: (cc, oc₀) :: news, p.1 < s₁.heap.objs.size := fun p hp => Heap.lt_size (N p hp).1
  have hcL : cc ≠ env.locals := (N _ (.tail _ (.head _))).2.1
  have hc0 : h₀.get? cc = none := (N _ (.tail _ (.head _))).2.2
  have hlen : vs.length = ks.length := hI.length
  generalize hIt : s₁.heap.objs.size = It at *
  have W9 : Walks prog w A It [It, ax] [It] vs.toArray.size (fun i v => vs.toArray[i]? = some v) (fun i h => h.IsListIter It ax i ∧ h.IsList ax vs.toArray) := Walks.list hh It ax (Nat.ne_of_lt hlt) vs.toArray
  have hn : vs.toArray.size = ks.length := by rw [List.size_toArray, hlen]
  have hcI : cc ≠ It := Nat.ne_of_lt (hnI _ (.tail _ (.head _)))
  refine codeAny_forLoop (R := fun r s' => match r with | .ok f => Q f s' | .error e => cameBackBy (model prog w) A env E e s')
    (fun k s' => ForLSt s₁ It ax vs h₀ env.locals m₀ (W.listOf vs.toArray cap) cc J ks.length k s') ?_ (ks.length + 1)
    ⟨_, s₁.toks, news, oc₀, v0, 0, rfl, ⟨⟨_, hIt ▸ Heap.get?_push_size _ rfl, rfl, rfl⟩, hl.push _⟩, F.push _, (fun p hp => ⟨Heap.get?_push_of_some _ (N p hp).1, (N p hp).2⟩), hoc, (fun p hp => ⟨Nat.ne_of_lt (hnI p (.tail _ (.tail _ hp))), hoff0 p hp⟩), h0, Nat.zero_le _, rfl⟩
  rintro k s' ⟨h', tk, nw, oc, v, i, rfl, hst, F', N', hd, hoff, hJ, hi, rfl⟩
  have next : ∀ h₁ : Heap, (∀ b o, b ∉ [It] → h'.get? b = some o → h₁.get? b = some o) → Fr h₀ env.locals h₁ m₀ ∧ News h₀ env.locals h₁ ((ax, W.listOf vs.toArray cap) :: (cc, oc) :: nw) := fun h₁ hk₁ =>
    ⟨⟨F'.ns.at' fun o e => hk₁ _ o (fun hm => hLne (List.mem_singleton.mp hm)) e, fun b o e => hk₁ b o (fun hm => by rw [List.mem_singleton.mp hm, hnew] at e; cases e) (F'.keep b o e), F'.above⟩,
      fun p hp => ⟨hk₁ _ _ (fun hm => by
        have e9 := List.mem_singleton.mp hm
        rcases List.mem_cons.mp hp with rfl | hp
        · exact Nat.ne_of_lt hlt e9
        · rcases List.mem_cons.mp hp with rfl | hp
          · exact hcI e9
          · exact (hoff p hp).1 e9) (N' p hp).1, (N' p hp).2⟩⟩
  by_cases hlt2 : i < ks.length
  · refine W9.item i _ _ _ (by rw [hn]; exact hlt2) hst fun v1 h₁ tk₁ hP hst₁ hk₁ => ?_
    obtain ⟨F₁, N₁⟩ := next h₁ hk₁
    obtain ⟨t9, e9⟩ := ints_at hI hlt2
    rw [List.getElem?_toArray, e9] at hP
    cases hP
    have hcell := (N₁ _ (.tail _ (.head _)))
    refine wpAny_assign_Name (wpAny_storeName_cell hk hx hc ⟨oc, hcell.1, hd⟩ fun h₂ hv₂ hs₂ => ?_)
    obtain ⟨oc2, ho2, hd2⟩ := hv₂
    have F₂ : Fr h₀ env.locals h₂ m₀ := ⟨F₁.ns.sameBut hs₂ (Ne.symm hcL), fun b ob e => (hs₂.2 b (fun q => by rw [q, hc0] at e; cases e)).trans (F₁.keep b ob e), F₁.above⟩
    obtain ⟨oI, heI, hoI⟩ := hst₁.1
    have N₃ : News h₀ env.locals h₂ ((It, oI) :: (ax, W.listOf vs.toArray cap) :: (cc, oc2) :: nw) := fun p hp => by
      rcases List.mem_cons.mp hp with rfl | hp
      · exact ⟨(hs₂.2 It (Ne.symm hcI)).trans heI, Ne.symm hLne, hnew⟩
      · rcases List.mem_cons.mp hp with rfl | hp
        · have z := N₁ _ (.head _)
          exact ⟨(hs₂.2 ax hac).trans z.1, z.2⟩
        · rcases List.mem_cons.mp hp with rfl | hp
          · exact ⟨ho2, hcell.2⟩
          · have z := N₁ p (.tail _ (.tail _ hp))
            exact ⟨(hs₂.2 p.1 (hoff p hp).2.2).trans z.1, z.2⟩
    refine wpAny_passesOwn hE (wpAny_mono (step It i _ t9 oI oc2 _ nw h₂ _ hlt2 rfl (fun p hp => by
      rcases List.mem_cons.mp hp with rfl | hp
      · exact hlt
      · rcases List.mem_cons.mp hp with rfl | hp
        · exact hnI (cc, oc₀) (.tail _ (.head _))
        · exact hnI p (.tail _ (.tail _ hp))) hJ hd2 rfl hoff F₂ N₃) (fun f s₃ h₃ => ?_) fun _ _ e => e)
    have fin : ForLEnd h₀ env.locals It ax cc oI (W.listOf vs.toArray cap) m₀ (J (i + 1)) { s₁ with heap := h₂, toks := tk₁ } s₃ →
        ∃ m, m < ks.length + 1 - i ∧ ForLSt s₁ It ax vs h₀ env.locals m₀ (W.listOf vs.toArray cap) cc J ks.length m s₃ := by
      rintro ⟨h₄, tk₄, nw₄, oc4, v4, rfl, F₄, N₄, d4, off₄, j₄⟩
      refine ⟨ks.length + 1 - (i + 1), by omega, h₄, tk₄, nw₄, oc4, v4, i + 1, rfl, ⟨⟨oI, (N₄ _ (.head _)).1, hoI⟩, ⟨_, (N₄ _ (.tail _ (.head _))).1, rfl, _, rfl⟩⟩, F₄, fun p hp => N₄ p (.tail _ hp), d4, off₄, j₄, hlt2, rfl⟩
    cases f with
    | ret v => exact h₃
    | brk => exact h₃
    | cont => exact fin h₃
    | next => exact fin h₃
  · have hin : i = ks.length := by omega
    subst hin
    refine W9.done _ _ _ (by rw [hn]; exact hst) fun h₁ tk₁ hk₁ => wpAny_execs_nil ?_
    obtain ⟨F₁, N₁⟩ := next h₁ hk₁
    exact hQ h₁ tk₁ nw oc v hJ F₁ N₁ hd
end

-- piece prod
noncomputable def KI (f : Nat → Int) (nw0 : List (Addr × Obj)) (i : Nat) (ys : List Value) (nw : List (Addr × Obj)) : Prop := nw = nw0 ∧ IntsAre ys ((List.range i).map f)
theorem KI.zero {f : Nat → Int} {nw0 : List (Addr × Obj)} : KI f nw0 0 [] nw0 := ⟨rfl, .nil⟩
theorem ints_snoc9 {vs : List Value} {ns : List Int} {n : Int} {t : Tok} (h : IntsAre vs ns) : IntsAre (vs ++ [.int n t]) (ns ++ [n]) := by
  induction h with
  | nil => exact .cons _ _ .nil
  | cons m u _ ih => exact .cons _ _ ih
theorem KI.next {f : Nat → Int} {nw0 : List (Addr × Obj)} {i : Nat} {ys : List Value} {n : Int} {t : Tok} (h : IntsAre ys ((List.range i).map f)) (e : n = f i) : KI f nw0 (i + 1) (ys ++ [.int n t]) nw0 := by
  refine ⟨rfl, ?_⟩
  rw [List.range_succ, List.map_append, List.map_singleton, ← e]
  exact ints_snoc9 h
noncomputable def turnL (m : Int) (rows one : List Int) (d : Nat) (ts : List Int) (c : Int) : List Int := (List.range d).map fun k => (([0] ++ List.take (ts.length - 1) ts).getD k 0 - ts.getD (d - 1) 0 * rows.getD k 0 + c * one.getD k 0).fmod m
noncomputable def prodAt (m : Int) (rows one : List Int) (d : Nat) (cs : List Int) : Nat → List Int
  | 0 => List.replicate d 0
  | i + 1 => turnL m rows one d (prodAt m rows one d cs i) (cs.getD i 0)
noncomputable def prodL (m : Int) (rows : List Int) (d : Nat) (one other : List Int) : List Int := prodAt m rows one d ((List.range d).map fun k => other.getD (d - 1 - k) 0) d
inductive KP (cT cP : Addr) (led : List (Addr × Obj)) (f : Nat → List Int) (i : Nat) (nw : List (Addr × Obj)) : Prop
  | mk : ∀ oT ta tv cap oP vP, (nw = (cT, oT) :: (ta, W.listOf tv.toArray cap) :: (cP, oP) :: led) → (oT.data = .cell (some (.ref ta))) → (oP.data = .cell vP) → (IntsAre tv (f i)) → (ta ≠ cT) → (ta ≠ cP) → KP cT cP led f i nw
theorem prod_regroup {h₀ h : Heap} {L : Addr} {ax D l t7 t6 t5 : Addr × Obj} {led : List (Addr × Obj)} (N : News h₀ L h (ax :: D :: l :: t7 :: t6 :: t5 :: led)) : News h₀ L h (ax :: t6 :: t5 :: D :: t7 :: led) := fun p hp => by
  apply N p
  simp only [List.mem_cons] at hp ⊢
  rcases hp with h | h | h | h | h | h
  · exact .inl h
  · exact .inr (.inr (.inr (.inr (.inl h))))
  · exact .inr (.inr (.inr (.inr (.inr (.inl h)))))
  · exact .inr (.inl h)
  · exact .inr (.inr (.inr (.inl h)))
  · exact .inr (.inr (.inr (.inr (.inr (.inr h)))))
theorem rep_zero (d : Nat) : (List.replicate ((d : Int)).toNat [(0 : Int)]).flatten = List.replicate d 0 := by
  rw [Int.toNat_natCast]
  induction d with
  | zero => rfl
  | succ k ih => rw [List.replicate_succ, List.flatten_cons, ih, List.replicate_succ]; rfl
theorem idxr {d i : Nat} (h : i < d) : ((d : Int) - 1 - (0 + (i : Int))) = ((d - 1 - i : Nat) : Int) := by omega
section
variable {prog : Program} {w : World} {A : Around} {E : Value → Shared → Prop} {s : Shared} {h₀ : Heap} {L : Addr} {m : Str → Option Value}
theorem int_lst {news : List (Addr × Obj)} {vs : List Value} {ns : List Int} {value slice : PySem.Expr} {t : Addr} {k : Int} {i cap : Nat} {u : Tok} {Q : Value → Shared → Prop}
    (I : IntsAre vs ns) (N : News h₀ L s.heap news) (hm : (t, W.listOf vs.toArray cap) ∈ news) (hk : k = (i : Int)) (hi : i < ns.length) (hz : i < 1000) (h : ∀ t, Q (.int (ns.getD i 0) t) s)
    (hs : subscripted slice false (.ref t) (.int k u) = operate [.ref t, .int k u] (getItem (.ref t) (.int k u)) := by with_unfolding_all rfl) (hg : ∀ r, letTemporaryGo value (.ref t) r = pure () := by intro _; with_unfolding_all rfl) :
    wpAny (model prog w) A (subscriptTail value slice (.ref t) (.int k u)) Q E s := by
  subst hk
  obtain ⟨t9, e⟩ := ints_get I hi
  exact kim_list N hm rfl rfl (by omega) (by omega) (by rw [Int.toNat_natCast]; exact e) (h _) hs hg
theorem int_last {news : List (Addr × Obj)} {vs : List Value} {ns : List Int} {value slice : PySem.Expr} {t : Addr} {d cap : Nat} {u : Tok} {Q : Value → Shared → Prop}
    (I : IntsAre vs ns) (N : News h₀ L s.heap news) (hm : (t, W.listOf vs.toArray cap) ∈ news) (hd : ns.length = d) (h1 : 1 ≤ d) (hz : d ≤ 1000) (h : ∀ t, Q (.int (ns.getD (d - 1) 0) t) s)
    (hs : subscripted slice false (.ref t) (.int (-1) u) = operate [.ref t, .int (-1) u] (getItem (.ref t) (.int (-1) u)) := by with_unfolding_all rfl) (hg : ∀ r, letTemporaryGo value (.ref t) r = pure () := by intro _; with_unfolding_all rfl) :
    wpAny (model prog w) A (subscriptTail value slice (.ref t) (.int (-1) u)) Q E s := by
  have hl : vs.length = d := I.length.trans hd
  obtain ⟨t9, e⟩ := ints_get I (i := d - 1) (by omega)
  have e2 : ((-1 : Int) + (vs.length : Int)).toNat = d - 1 := by omega
  exact kim_back N hm rfl rfl (by decide) (by omega) (by decide) (by rw [e2]; exact e) (h _) hs hg
end
theorem turn_len (m : Int) (rows one : List Int) (d : Nat) (ts : List Int) (c : Int) : (turnL m rows one d ts c).length = d := by simp [turnL]
theorem prodAt_len (m : Int) (rows one : List Int) (d : Nat) (cs : List Int) : ∀ i, (prodAt m rows one d cs i).length = d
  | 0 => List.length_replicate
  | _ + 1 => turn_len _ _ _ _ _ _
theorem mulok_in {q a : Int} {ns : List Int} {i : Nat} (h : InQ q ns) (hq : q ≤ 4000000000000000000) : IntMulOk a (ns.getD i 0) := by
  by_cases hi : i < ns.length
  · have := h.get hi
    exact IntMulOk.of_right (intBits_le_64 (by omega) (by omega))
  · have e : ns.getD i 0 = 0 := by simp [Nat.not_lt.mp hi]
    rw [e]
    exact IntMulOk.of_right (intBits_le_64 (by decide) (by decide))
local macro_rules | `(tactic| k_cells $Y:ident) => `(tactic| (have hY := CellsAre.seven9 $Y; obtain ⟨o1', o2', o3', o4', o5', o6', o7', hE', d1', d2', d3', d4', d5', d6', d7'⟩ := hY; subst hE'; clear $Y))
theorem lay78 : True := by
  k_with "m.mul_fits" => exact mulok_in (by with_reducible assumption) (by omega)
  k_with "m:subscriptTail Name BinOp ref int" => first | ((with_reducible show wpAny _ _ (subscriptTail _ _ (Value.ref _) (Value.int _ _)) _ _ _); k_dflt (refine' int_lst ?Iq7 ?Nq7 ?hmq7 ?hkq7 ?hiq7 ?hzq7 ?_; (case Nq7 => k_asm); (case hmq7 => k_mem); (case Iq7 => with_reducible assumption); (case hkq7 => (first | with_reducible exact Int.zero_add _ | with_reducible exact idxr (by assumption))); (case hiq7 => (first | omega | (simp; omega))); (case hzq7 => omega); k_whole; intro t'q))
  k_with "m:subscriptTail Name Name ref int" => first | ((with_reducible show wpAny _ _ (subscriptTail _ _ (Value.ref _) (Value.int _ _)) _ _ _); k_dflt (refine' int_lst ?Iq7 ?Nq7 ?hmq7 ?hkq7 ?hiq7 ?hzq7 ?_; (case Nq7 => k_asm); (case hmq7 => k_mem); (case Iq7 => with_reducible assumption); (case hkq7 => (first | with_reducible exact Int.zero_add _ | with_reducible exact idxr (by assumption))); (case hiq7 => (first | omega | (simp; omega))); (case hzq7 => omega); k_whole; intro t'q))
  k_with "m:subscriptTail Name UnaryOp ref int" => first | ((with_reducible show wpAny _ _ (subscriptTail _ _ (Value.ref _) (Value.int _ _)) _ _ _); k_dflt (refine' int_last ?Iq7 ?Nq7 ?hmq7 ?hdq7 ?h1q7 ?hzq7 ?_; (case Nq7 => k_asm); (case hmq7 => k_mem); (case Iq7 => with_reducible assumption); (case hdq7 => with_reducible assumption); (case h1q7 => omega); (case hzq7 => omega); k_whole; intro t'q))
  k_with "m:eval ListComp" => (k_dflt (refine ListComp_G (by k_asm) (by with_unfolding_all rfl) (by decide) (by rfl) (by decide) (by rfl) ?_))
  k_with "m:exec For Name Call cons nil" => ((rename Fr _ _ _ _ => lF'q); (k_dflt (refine' For_LC lF'q ?hhq7 ?k0q7 ?k1q7 ?k2q7 ?_; (case hhq7 => exact rfl); (case k0q7 => exact rfl); (case k1q7 => exact rfl); (case k2q7 => exact rfl); k_whole)))
  k_with "m:exec For" => ((rename Fr _ _ _ _ => lF'q); (k_dflt (refine' For_LC lF'q ?hhq7 ?k0q7 ?k1q7 ?k2q7 ?_; (case hhq7 => exact rfl); (case k0q7 => exact rfl); (case k1q7 => exact rfl); (case k2q7 => exact rfl); k_whole)))
  k_with "m:storeName" => first | ((k_dflt (refine' storeX_C ?Fq7 ?Nq7 ?cq7 ?Uq7 ?dq7 ?_ ?aq7 ?bq7; (case aq7 => rfl); (case bq7 => rfl); (case Fq7 => k_asm); (case Nq7 => k_asm); (case cq7 => rfl); (case Uq7 => k_updF); (case dq7 => k_asm); k_whole; intro h'q o'q F'q N'q d'q; (try dsimp only at N'q); (try k_sweep))))
  trivial
section
variable {w : World} {p : Program} {loose : List Str} {mean : ExcName → Option Value} {mg mb : Str → Option Value} {dp un : Nat} {gd : Option (List Code)} {A₀ : Around} {env : Env} {outer : List Env} {base h₀ : Heap} {L : Addr} {m : Str → Option Value} {s : Shared} {Q E : Value → Shared → Prop} {news : List (Addr × Obj)}
set_option maxRecDepth 100000 in
set_option maxHeartbeats 8000000 in
theorem prod_c {rl ol tl : Addr} {rvs ovs tvs : List Value} {rows one other : List Int} {c1 c2 c3 d : Nat} {m9 : Int} {tm : Tok}
    (hf : env.frame = some L) (hke : env.scope.kind = .function) (hdp : dp ≤ 900) (hun : un ≤ 9000)
    (B : Below A₀ base outer h₀) (F : Fr h₀ L s.heap m) (X : (hd.heap_1 w.params).In h₀) (N : News h₀ L s.heap news) (T : Top p loose mean mg mb h₀)
    (h1 : (rl, W.listOf rvs.toArray c1) ∈ news) (h2 : (ol, W.listOf ovs.toArray c2) ∈ news) (h3 : (tl, W.listOf tvs.toArray c3) ∈ news) (i1 : IntsAre rvs rows) (i2 : IntsAre ovs one) (i3 : IntsAre tvs other)
    (hm : 1 < m9) (hm2 : m9 ≤ 1000004) (hd1 : 1 ≤ d) (hd3 : d ≤ 3) (e1 : rows.length = d) (e2 : one.length = d) (e3 : other.length = d) (q1 : InQ m9 rows) (q2 : InQ m9 one)
    (hret : ∀ (D : Addr) (us : List Value) (cap : Nat) (h' : Heap) (tk' : Nat), IntsAre us (prodL m9 rows d one other) → Fr h₀ L h' m → News h₀ L h' ((D, W.listOf us.toArray cap) :: news) → Q (.ref D) { s with heap := h', toks := tk' }) :
    wpAny (model PR w) (ar dp un gd env outer) (call (.ref 602) [.int m9 tm, .ref rl, .ref ol, .ref tl]) Q E s := by
  refine wpAny_call ?_
  have hrl : rvs.length = d := i1.length.trans e1
  (k_dflt (refine' code_defCB (fun y => none) (fun z => if z = Str.ofString "other" then some (.ref tl) else if z = Str.ofString "one" then some (.ref ol) else if z = Str.ofString "rows" then some (.ref rl) else if z = Str.ofString "m" then some (.int m9 tm) else none) ?k1 ?k2 ?k3 ?k4 ?k5 ?kA ?kF ?kK ?k6 ?k7 ?k8 ?kP ?k9 ?kB ?kD ?kL ?kC ?_ ?c2 ?c3 ?c4; (case kA => exact rfl); (case kF => first | assumption | exact rfl); (case kK => first | assumption | exact rfl); (case k1 => k_asm); (case k2 => k_asm); (case k3 => k_asm); (case k4 => k_asm); (case k5 => k_asm); (case k6 => k_is); (case k7 => k_is); (case k8 => k_room); (case kP => first | exact BindsP.cons BindsP.nil | exact BindsP.cons (BindsP.cons BindsP.nil) | exact BindsP.cons (BindsP.cons (BindsP.cons BindsP.nil)) | exact BindsP.cons (BindsP.cons (BindsP.cons (BindsP.cons BindsP.nil)))); (case k9 => first | exact BindsTo.of_eq rfl | exact binds_K (by k_in) rfl (by k_is) rfl rfl rfl | fail "k_enter: no rule for these arguments"); (case kB => exact rfl); (case kD => decide +kernel); (case kL => (intro _; funext y; exact rfl)); (case kC => (intro _; funext y; exact rfl)); (case c2 => exact rfl); (case c3 => exact rfl); (case c4 => exact rfl); k_whole; intro g' L' h' tk' cells' FG' F' N' Y' B' X' T' l1; (try k_lt l1); k_cells Y'; (try simp only [List.cons_append, List.nil_append] at N'); (try dsimp only); (try k_lift B'); (first | refine let q' : Flow → Shared → Prop := _; let e' : Value → Shared → Prop := _; let o' : Around := _; let v' : Env := _; let a' : Around := Around.deeper o' v'; let s' : Shared := _; (?_ : wpAny _ a' (execs _ v') q' e' s') | skip)))
  have n9 : ∀ j : Nat, ∀ p ∈ news, p.1 ≠ L' + j := fun j p hp => Nat.ne_of_lt (Nat.lt_of_lt_of_le (l1 p hp) (Nat.le_add_right _ _))
  have n5 : ∀ p ∈ news, p.1 ≠ L' + 1 + 1 + 1 + 1 + 1 := n9 5
  have n6 : ∀ p ∈ news, p.1 ≠ L' + 1 + 1 + 1 + 1 + 1 + 1 := n9 6
  have n7 : ∀ p ∈ news, p.1 ≠ L' + 1 + 1 + 1 + 1 + 1 + 1 + 1 := n9 7
  k_steps
  refine' CompSrcG.rangeE (n := d) (KI (fun k => other.getD (d - 1 - k) 0) _) rfl ?F ?N ?hr ?hs ?hn ?hz KI.zero ?tu ?dn
  case F => k_asm
  case N => k_asm
  case hr => assumption
  case hs => exact small_one (by omega) (by omega) (by omega) (by omega)
  case hn => rw [rangeSize_nat]; omega
  case hz => (rw [sizeLine_eq]; omega)
  case tu =>
    rintro I C D oI oC i v m₂ ys nw h tk E' hi ⟨t, rfl⟩ ⟨rfl, hI⟩ hl hC hx off ne F N
    clear hret
    k_steps
    refine' TurnEnd.intro ?F ?N (fun _ h9 => h9) off True.intro (KI.next hI ?e)
    case F => k_asm
    case N => k_asm
    case e => rfl
  case dn =>
    rintro ax zs nw h tk hl ⟨rfl, hI⟩ off F N
    k_steps
    with_reducible rename News _ _ _ _ => N9
    have N8 := prod_regroup N9
    have hI0 := (by with_reducible assumption : IntsAre (List.replicate ((d : Int)).toNat [Value.int 0 _]).flatten (List.replicate ((d : Int)).toNat [(0 : Int)]).flatten)
    rw [rep_zero] at hI0
    refine' ⟨ax, zs, (List.range d).map (fun k => other.getD (d - 1 - k) 0), d, _, _, _, _, KP (L' + 1 + 1 + 1 + 1 + 1) (L' + 1 + 1 + 1 + 1 + 1 + 1 + 1) _ (prodAt m9 rows one d ((List.range d).map fun k => other.getD (d - 1 - k) 0)), rfl, ?F, N8, ?hoc, ?hac, ?off0, hI, ⟨_, _, _, _, _, _, rfl, ?d1, ?d2, hI0, ?z0, ?z1⟩, ?turn, ?done⟩
    case F => k_asm
    case hoc => assumption
    case d1 => assumption
    case d2 => assumption
    case z0 => exact Nat.ne_of_gt (by omega)
    case z1 => exact Nat.ne_of_gt (by omega)
    case hac => exact Ne.symm (off _ (.tail _ (.tail _ (.tail _ (.head _)))))
    case off0 =>
      intro p hp
      refine ⟨off p ?_, ?_⟩
      · simp only [List.mem_cons] at hp ⊢
        rcases hp with h | h | h | h | h | h | h | h
        · exact .inr (.inr (.inr (.inr (.inl h))))
        · exact .inl h
        · exact .inr (.inr (.inl h))
        · exact .inr (.inr (.inr (.inr (.inr (.inl h)))))
        · exact .inr (.inr (.inr (.inr (.inr (.inr (.inl h))))))
        · exact .inr (.inr (.inr (.inr (.inr (.inr (.inr (.inl h)))))))
        · exact .inr (.inr (.inr (.inr (.inr (.inr (.inr (.inr (.inl h))))))))
        · exact .inr (.inr (.inr (.inr (.inr (.inr (.inr (.inr (.inr h))))))))
      · simp only [List.mem_cons] at hp
        rcases hp with rfl | rfl | rfl | rfl | rfl | rfl | rfl | h
        · exact Nat.ne_of_lt (by omega)
        · exact Nat.ne_of_gt (by omega)
        · exact Nat.ne_of_gt (by omega)
        · exact Nat.ne_of_lt (by omega)
        · exact Nat.ne_of_lt (by omega)
        · exact Nat.ne_of_lt (by omega)
        · exact Nat.ne_of_lt (by omega)
        · exact n6 p h
    case turn =>
      clear hret
      rintro I i k t oI oc v nw h tk hi hk hIlt ⟨oT, ta, tv, cap, oP, vP, rfl, hT, hP, hIt, hZ1, hZ2⟩ hoc hv hoff F N
      subst hv
      obtain ⟨ts, hts⟩ : ∃ ts, ts = prodAt m9 rows one d ((List.range d).map fun k => other.getD (d - 1 - k) 0) i := ⟨_, rfl⟩
      have hTl := prodAt_len m9 rows one d ((List.range d).map fun k => other.getD (d - 1 - k) 0) i
      rw [← hts] at hIt hTl
      have htl : tv.length = d := hIt.length.trans hTl
      have hI7 : @LT.lt Nat _ (L' + 1 + 1 + 1 + 1 + 1 + 1 + 1) I := hIlt _ (.tail _ (.tail _ (.tail _ (.tail _ (.head _)))))
      have hA5 : ax ≠ L' + 1 + 1 + 1 + 1 + 1 := Ne.symm (off _ (.tail _ (.tail _ (.tail _ (.tail _ (.head _))))))
      have hA7 : ax ≠ L' + 1 + 1 + 1 + 1 + 1 + 1 + 1 := Ne.symm (off _ (.tail _ (.tail _ (.head _))))
      k_steps
      refine' CompSrcG.rangeE (n := d) (KI (fun j => (([0] ++ List.take (ts.length - 1) ts).getD j 0 - ts.getD (d - 1) 0 * rows.getD j 0 + k * one.getD j 0).fmod m9) _) rfl ?F2 ?N2 ?hr2 ?hs2 ?hn2 ?hz2 KI.zero ?tu2 ?dn2
      case F2 => k_asm
      case N2 => k_asm
      case hr2 => assumption
      case hs2 => exact small_one (by omega) (by omega) (by omega) (by omega)
      case hn2 => rw [rangeSize_nat]; omega
      case hz2 => (rw [sizeLine_eq]; omega)
      case tu2 =>
        rintro I2 C2 D2 oI2 oC2 j v2 m2 ys nw h tk E' hj ⟨t, rfl⟩ ⟨rfl, hI2⟩ hl2 hC2 hx2 off2 ne2 F2 N2
        k_steps
        refine' TurnEnd.intro ?F ?N (fun _ h9 => h9) off2 True.intro (KI.next hI2 ?e)
        case F => k_asm
        case N => k_asm
        case e => rfl
      case dn2 =>
        rintro ax2 us nw h tk hl2 ⟨rfl, hI2⟩ off2 F2 N2
        have hI3 : IntsAre us (prodAt m9 rows one d ((List.range d).map fun k => other.getD (d - 1 - k) 0) (i + 1)) := by
          show IntsAre us (turnL m9 rows one d (prodAt m9 rows one d ((List.range d).map fun k => other.getD (d - 1 - k) 0) i) _)
          rw [← hts, ← hk]
          exact hI2
        have hB5 : ax2 ≠ L' + 1 + 1 + 1 + 1 + 1 := Ne.symm (off2 _ (.tail _ (.tail _ (.tail _ (.tail _ (.tail _ (.tail _ (.head _))))))))
        have hB7 : ax2 ≠ L' + 1 + 1 + 1 + 1 + 1 + 1 + 1 := Ne.symm (off2 _ (.tail _ (.tail _ (.tail _ (.tail _ (.tail _ (.tail _ (.tail _ (.tail _ (.head _))))))))))
        have hB6 : ax2 ≠ L' + 1 + 1 + 1 + 1 + 1 + 1 := Ne.symm (off2 _ (.tail _ (.tail _ (.tail _ (.tail _ (.tail _ (.head _)))))))
        have hBI : ax2 ≠ I := Ne.symm (off2 _ (.tail _ (.tail _ (.tail _ (.head _)))))
        have hBa : ax2 ≠ ax := Ne.symm (off2 _ (.tail _ (.tail _ (.tail _ (.tail _ (.head _))))))
        k_steps
        refine' ForLEnd.intro (nw := (L' + 1 + 1 + 1 + 1 + 1, _) :: (ax2, W.listOf us.toArray d) :: (L' + 1 + 1 + 1 + 1 + 1 + 1 + 1, _) :: _) ?F ?N ?sub hoc ?off ⟨_, _, _, _, _, _, rfl, ?d1, ?d2, hI3, hB5, hB7⟩
        case F => k_asm
        case N => k_asm
        case sub =>
          refine List.forall_mem_cons.mpr ⟨by k_mem, List.forall_mem_cons.mpr ⟨by k_mem, List.forall_mem_cons.mpr ⟨by k_mem, List.forall_mem_cons.mpr ⟨by k_mem, List.forall_mem_cons.mpr ⟨by k_mem, List.forall_mem_cons.mpr ⟨by k_mem, fun p hp => ?_⟩⟩⟩⟩⟩⟩
          k_mem
        case d1 => assumption
        case d2 => assumption
        case off =>
          have h9 := fun p hp => hoff p (.tail _ (.tail _ (.tail _ hp)))
          exact List.forall_mem_cons.mpr ⟨hoff (_, oT) (.head _), List.forall_mem_cons.mpr ⟨⟨hBI, hBa, hB6⟩, List.forall_mem_cons.mpr ⟨hoff (_, oP) (.tail _ (.tail _ (.head _))), h9⟩⟩⟩
    case done =>
      rintro h tk nw oc v ⟨oT, ta, tv, cap, oP, vP, rfl, hT, hP, hIt, hZ1, hZ2⟩ F N hd
      have hcl : ((List.range d).map fun k => other.getD (d - 1 - k) 0).length = d := by simp
      rw [hcl] at hIt
      k_steps
      refine hret ta tv cap _ _ hIt (by k_asm) (cb_drop (by k_asm) ?_)
      exact List.forall_mem_cons.mpr ⟨by k_mem, fun p hp => by k_mem⟩
end

-- piece mulspec
noncomputable def mStep (q : Int) (xs ys bs : List Int) (i j : Nat) : List Int := bs.set (i + j) ((bs.getD (i + j) 0 + (xs.getD i 0 * ys.getD j 0) % q) % q)
noncomputable def mIn (q : Int) (xs ys bs : List Int) (i : Nat) : Nat → List Int
  | 0 => bs
  | j + 1 => mStep q xs ys (mIn q xs ys bs i j) i j
noncomputable def mOut (q : Int) (xs ys : List Int) (d : Nat) (bs : List Int) : Nat → List Int
  | 0 => bs
  | i + 1 => mIn q xs ys (mOut q xs ys d bs i) i d
noncomputable def sStep (q : Int) (rows : List Int) (top : Int) (e : Nat) (bs : List Int) (i : Nat) : List Int := bs.set (e + i) ((bs.getD (e + i) 0 - (top * (rows.getD i 0 % q)) % q) % q)
noncomputable def sIn (q : Int) (rows : List Int) (top : Int) (e : Nat) (bs : List Int) : Nat → List Int
  | 0 => bs
  | i + 1 => sStep q rows top e (sIn q rows top e bs i) i
noncomputable def redu (q : Int) (rows : List Int) (d : Nat) : Nat → List Int → List Int
  | 0, bs => bs
  | f + 1, bs => redu q rows d f (sIn q rows (bs.getD (bs.length - 1) 0) (bs.length - d - 1) bs.dropLast d)
noncomputable def mulL (q : Int) (rows : List Int) (d : Nat) (xs ys : List Int) : List Int := redu q rows d (d - 1) (mOut q xs ys d (List.replicate (2 * d - 1) 0) d)
inductive KM (P : Params) (q : Int) (bl : Addr) (led : List (Addr × Obj)) (Zs : List Addr) (g0 : Array GenState) (len : Nat) (bsAt : Nat → List Int) (i : Nat) (nw : List (Addr × Obj)) (gn : Array GenState) : Prop
  | mk : ∀ vs cap objs, (nw = (bl, W.listOf vs.toArray cap) :: (objs ++ led)) → (FqL P q objs vs (bsAt i)) → (InQ q (bsAt i)) → ((bsAt i).length = len) → ((∀ p ∈ objs, ∀ z ∈ Zs, p.1 ≠ z)) → (gn = g0) → KM P q bl led Zs g0 len bsAt i nw gn
theorem KM.zero {P : Params} {q : Int} {bl : Addr} {led objs : List (Addr × Obj)} {Zs : List Addr} {g0 : Array GenState} {len cap : Nat} {bsAt : Nat → List Int} {vs : List Value} (FQ : FqL P q objs vs (bsAt 0)) (hq : InQ q (bsAt 0)) (hl : (bsAt 0).length = len) (hz : ∀ p ∈ objs, ∀ z ∈ Zs, p.1 ≠ z) :
    KM P q bl led Zs g0 len bsAt 0 ((bl, W.listOf vs.toArray cap) :: (objs ++ led)) g0 := ⟨vs, cap, objs, rfl, FQ, hq, hl, hz, rfl⟩
theorem KM.next {P : Params} {q : Int} {bl a d : Addr} {led objs : List (Addr × Obj)} {Zs : List Addr} {g0 : Array GenState} {len cap i k : Nat} {n : Int} {bsAt : Nat → List Int} {vs : List Value} {t1 t2 t3 t4 : Tok} (FQ : FqL P q objs vs (bsAt i)) (hq : InQ q (bsAt i)) (hl : (bsAt i).length = len) (hz : ∀ p ∈ objs, ∀ z ∈ Zs, p.1 ≠ z)
    (ha : ∀ z ∈ Zs, a ≠ z) (hd : ∀ z ∈ Zs, d ≠ z) (e : bsAt (i + 1) = (bsAt i).set k n) (h0 : 0 ≤ n) (h1 : n < q) :
    KM P q bl led Zs g0 len bsAt (i + 1) ((bl, W.listOf (vs.set k (.ref a)).toArray cap) :: (((a, instObj 254 d) :: (d, fqD P q n t1 t2 t3 t4) :: objs) ++ led)) g0 :=
  ⟨_, cap, _, rfl, e ▸ FQ.set, e ▸ hq.set h0 h1, by rw [e, List.length_set, hl], List.forall_mem_cons.mpr ⟨ha, List.forall_mem_cons.mpr ⟨hd, hz⟩⟩, rfl⟩
inductive KC (P : Params) (q : Int) (led : List (Addr × Obj)) (i : Nat) (ys : List Value) (nw : List (Addr × Obj)) : Prop
  | mk : ∀ objs, (nw = objs ++ led) → (FqL P q objs ys (List.replicate i 0)) → (∀ p ∈ objs, p.1 ≠ 267) → KC P q led i ys nw
theorem KC.zero {P : Params} {q : Int} {led : List (Addr × Obj)} : KC P q led 0 [] led := ⟨[], rfl, FqL.nil _ _ _, fun _ h => nomatch h⟩
theorem KC.next {P : Params} {q : Int} {led objs : List (Addr × Obj)} {i : Nat} {ys : List Value} {a d : Addr} {n : Int} {t1 t2 t3 t4 : Tok} (FQ : FqL P q objs ys (List.replicate i 0)) (hz : ∀ p ∈ objs, p.1 ≠ 267) (ha : a ≠ 267) (hd : d ≠ 267) (e : n = 0) :
    KC P q led (i + 1) (ys ++ [.ref a]) (((a, instObj 254 d) :: (d, fqD P q n t1 t2 t3 t4) :: objs) ++ led) := by
  subst e
  refine ⟨_, rfl, ?_, List.forall_mem_cons.mpr ⟨ha, List.forall_mem_cons.mpr ⟨hd, hz⟩⟩⟩
  rw [List.replicate_succ']
  exact FQ.app
noncomputable def KW (P : Params) (q : Int) (bl : Addr) (led : List (Addr × Obj)) (Zs : List Addr) (d : Nat) (rows Bf : List Int) (m₀ : Str → Option Value) (k : Nat) (m' : Str → Option Value) (nw : List (Addr × Obj)) : Prop :=
  (∀ z, ([Str.ofString "exp", Str.ofString "top", Str.ofString "i"].contains z) = false → m' z = m₀ z) ∧ ∃ vs cap objs bs, nw = (bl, W.listOf vs.toArray cap) :: (objs ++ led) ∧ FqL P q objs vs bs ∧ InQ q bs ∧ bs.length = d + k ∧ k ≤ 2 ∧ redu q rows d k bs = Bf ∧ (∀ p ∈ objs, ∀ z ∈ Zs, p.1 ≠ z)
theorem KW.zero {P : Params} {q : Int} {bl : Addr} {led objs : List (Addr × Obj)} {Zs : List Addr} {d k cap : Nat} {rows Bf bs : List Int} {m₀ : Str → Option Value} {vs : List Value} (FQ : FqL P q objs vs bs) (hq : InQ q bs) (hl : bs.length = d + k) (hk : k ≤ 2) (e : redu q rows d k bs = Bf) (hz : ∀ p ∈ objs, ∀ z ∈ Zs, p.1 ≠ z) :
    KW P q bl led Zs d rows Bf m₀ k m₀ ((bl, W.listOf vs.toArray cap) :: (objs ++ led)) := ⟨fun _ _ => rfl, vs, cap, objs, bs, rfl, FQ, hq, hl, hk, e, hz⟩
theorem KW.map {m₀ m' : Str → Option Value} (h : ∀ z, ([Str.ofString "exp", Str.ofString "top", Str.ofString "i"].contains z) = false → m' z = m₀ z) :
    m' = fun z => if ([Str.ofString "exp", Str.ofString "top", Str.ofString "i"].contains z) then m' z else m₀ z := by
  funext z
  cases hc : [Str.ofString "exp", Str.ofString "top", Str.ofString "i"].contains z with
  | true => rfl
  | false => exact h z hc

-- piece ipop
section
variable {prog : Program} {w : World} {A : Around} {E : Value → Shared → Prop} {s : Shared} {K : Frag} {x C L f : Addr} {h₀ : Heap} {m : Str → Option Value} {ox : Obj} {od : Option Obj}
theorem fills_no {M : Model} {h : Heap} {nm : String} {cd : ClassData} {add : Bool} (X : K.In h) (hc : clsIn K C = some cd) (hm : cd.mro = [.ref C, .type "object"]) (h1 : findIn K (.ref C) (dunderI nm) = some none) (h2 : findIn K (.type "object") (dunderI nm) = some none) :
    Looks M h (fillsInplaceSlot (.ref C) nm add) false := by
  intro A Q E s k q
  have Lm : Looks M h (mroOf (.ref C)) cd.mro := (looks_clsIn X hc).andThen (f := fun cd => pure cd.mro) .now
  have Lm' := Lm.keeps k
  obtain ⟨hh, g, d, tt, os⟩ := s
  have X' : K.In hh := X.keeps k
  have L1 : Looks M hh (typeLookup (.ref C) (dunderI nm)) none := looks_findIn X' h1
  have L2 : Looks M hh (typeLookup (.type "object") (dunderI nm)) none := looks_findIn X' h2
  unfold fillsInplaceSlot
  refine wpAny_bind (Lm'.at ?_)
  rw [hm, List.anyM_cons]
  refine wpAny_bind ?_
  refine wpAny_bind (L1.at ?_)
  refine wpAny_pure ?_
  simp only [Bool.false_eq_true, if_false]
  rw [List.anyM_cons]
  refine wpAny_bind ?_
  refine wpAny_bind (L2.at ?_)
  refine wpAny_pure ?_
  simp only [Bool.false_eq_true, if_false]
  rw [List.anyM_nil]
  exact wpAny_pure q
theorem ip_ite {α : Type} {M : Model} {c : Prop} [Decidable c] {y z : Sem α} {Q : α → Shared → Prop} (hc : c) (h : wpAny M A y Q E s) : wpAny M A (if c then y else z) Q E s := by rw [if_pos hc]; exact h
theorem ip_binop {op : Operator} {cd : ClassData} {b : Value} {Q : Value → Shared → Prop} (F : Fr h₀ L s.heap m) (X₀ : K.In h₀) (I : InstAt s.heap x ox C od) (hb : Looks (model prog w) s.heap (typeOf b) (.ref C)) (hcd : clsIn K C = some cd) (hm : cd.mro = [.ref C, .type "object"])
    (hs : findIn K (.ref C) (PySem.dunder op.info.2) = some (some (.ref f))) (hf : isFn K (.ref f) = true) (h1 : findIn K (.ref C) (dunderI op.info.2) = some none) (h2 : findIn K (.type "object") (dunderI op.info.2) = some none)
    (h : wpAny (model prog w) A (call (.ref f) [.ref x, b]) (PySem.W.CmpBack Q) E s) : wpAny (model prog w) A (inplaceOp op (.ref x) b) Q E s := by
  have X := X₀.keeps F.keep
  delta inplaceOp
  refine wpAny_holding (wpAny_bind (I.type.here ?_))
  refine wpAny_bind ((fills_no X hcd hm h1 h2).here ?_)
  refine wpAny_bind (m := binaryOp1 op.info.2 (.ref x) b) ?_
  delta binaryOp1
  refine wpAny_bind (I.type.here (wpAny_bind (hb.here (wpAny_bind ((fills_K X hcd hm hs).here ?_)))))
  refine ip_ite (beq_self_eq_true _) ?_
  refine wpAny_bind (m := pure false) (wpAny_pure ?_)
  refine wpAny_bind (m := pure false) (wpAny_pure ?_)
  refine wpAny_bind (m := tryMethod (.ref x) _ b) ?_
  delta tryMethod
  refine wpAny_bind (special_fn X I hs (beq_iff_eq.mp hf) (wpAny_mono h (fun v s' hv => ?_) fun _ _ e => e))
  cases v <;> first | exact hv.elim | exact wpAny_pure (wpAny_pure (wpAny_pure hv))
end

theorem lay79 : True := by
  k_with_none
  k_with "std" => ((case qFq7 => first | assumption | exact rfl); (case qKq7 => first | assumption | exact rfl); (case qDq7 => ((try simp +zetaDelta only [depth_mark, depth_under_make, depth_under_kw, depth_in1, depth_deeper]); (try dsimp only); omega)); (case qUq7 => ((try simp +zetaDelta only [units_under_make, units_in1, units_deeper, Around.mark_units]); (try dsimp only); omega)); (case q1q7 => k_asm); (case q2q7 => k_asm); (case q3q7 => k_asm); (case q4q7 => k_asm); (case q5q7 => k_asm))
  k_with "m.k_room" => ((show _ < 1000); (try simp +zetaDelta only [depth_mark, depth_under_make, depth_under_kw, depth_in1, depth_deeper]); (try dsimp only); omega)
  k_with "m.k_units" => ((show _ < 9900); (try simp +zetaDelta only [units_under_make, units_in1, units_deeper, Around.mark_units]); (try dsimp only); omega)
  k_with "m.k_enter" => (refine' code_defB ?k1q7 ?k2q7 ?k3q7 ?k4q7 ?k5q7 ?kAq7 ?kFq7 ?kKq7 ?k6q7 ?k7q7 ?k8q7 ?kPq7 ?k9q7 ?kDq7 ?kBq7 ?_ ?c2q7 ?c3q7 ?c4q7 ?c5q7; (case kAq7 => exact rfl); (case kFq7 => first | assumption | exact rfl); (case kKq7 => first | assumption | exact rfl); (case k1q7 => k_asm); (case k2q7 => k_asm); (case k3q7 => k_asm); (case k4q7 => k_asm); (case k5q7 => k_asm); (case k6q7 => k_is); (case k7q7 => k_is); (case k8q7 => k_room); (case kPq7 => first | exact BindsP.nil | exact BindsP.cons BindsP.nil | exact BindsP.cons (BindsP.cons BindsP.nil) | exact BindsP.cons (BindsP.cons (BindsP.cons BindsP.nil)) | exact BindsP.cons (BindsP.cons (BindsP.cons (BindsP.cons BindsP.nil))) | exact BindsP.cons (BindsP.cons (BindsP.cons (BindsP.cons (BindsP.cons BindsP.nil)))) | exact BindsP.cons (BindsP.cons (BindsP.cons (BindsP.cons (BindsP.cons (BindsP.cons BindsP.nil))))) | exact BindsP.cons (BindsP.cons (BindsP.cons (BindsP.cons (BindsP.cons (BindsP.cons (BindsP.cons BindsP.nil)))))) | exact BindsP.cons (BindsP.cons (BindsP.cons (BindsP.cons (BindsP.cons (BindsP.cons (BindsP.cons (BindsP.cons BindsP.nil)))))))); (case k9q7 => first | exact BindsTo.of_eq rfl | exact binds_K (by k_in) rfl (by k_is) rfl rfl rfl | fail "k_enter: no rule for these arguments"); (case kDq7 => kernel_rfl); (case c5q7 => decide); (case kBq7 => exact locs rfl); (case c2q7 => exact rfl); (case c3q7 => exact rfl); (case c4q7 => exact rfl); k_whole; intro g'q L'q h'q FG'q F'q N'q B'q X'q T'q; (try dsimp only [bindMap, List.length_cons, List.length_nil] at F'q ⊢); (try k_lift B'q); (first | refine let q'q : Flow → Shared → Prop := _; let e'q : Value → Shared → Prop := _; let o'q : Around := _; let v'q : Env := _; let a'q : Around := Around.deeper o'q v'q; let s'q : Shared := _; (?_ : wpAny _ a'q (execs _ v'q) q'q e'q s'q) | skip))
  k_with "m:CmpBack" => (unfold PySem.W.CmpBack; (try dsimp only))
  k_with "m:LenBack" => (unfold PySem.W.LenBack; (try dsimp only))
  k_with "m:StrBack" => (unfold PySem.W.StrBack; (try dsimp only))
  k_with "m:BoolBack" => (unfold PySem.W.BoolBack; (try dsimp only))
  k_with "mem" => first | exact List.Mem.head _ | assumption | (refine' List.Mem.tail _ ?_; k_extra "mem")
  k_with "m.k_ne" => (refine neN ?_; (try dsimp only); first | ((refine Nat.ne_of_lt ?_; (repeat (first | with_reducible exact Nat.lt_add_one _ | with_reducible refine Nat.lt_add_one_of_lt ?_)); done)) | ((refine Nat.ne_of_gt ?_; (repeat (first | with_reducible exact Nat.lt_add_one _ | with_reducible refine Nat.lt_add_one_of_lt ?_)); done)) | ((with_reducible refine Nat.ne_of_gt ?_; first | with_reducible assumption | exact And.left (by with_reducible assumption) | exact And.left (And.right (by with_reducible assumption)) | exact And.left (And.right (And.right (by with_reducible assumption))) | exact And.left (And.right (And.right (And.right (by with_reducible assumption)))) | exact And.left (And.right (And.right (And.right (And.right (by with_reducible assumption))))) | exact And.left (And.right (And.right (And.right (And.right (And.right (by with_reducible assumption)))))) | exact And.left (And.right (And.right (And.right (And.right (And.right (And.right (by with_reducible assumption))))))) | exact And.left (And.right (And.right (And.right (And.right (And.right (And.right (And.right (by with_reducible assumption)))))))) | exact And.left (And.right (And.right (And.right (And.right (And.right (And.right (And.right (And.right (by with_reducible assumption))))))))))) | omega)
  k_with "m.k_mem" => k_extra "mem"
  k_with "m:eval Call" => ((with_reducible show wpAny _ _ (eval (Expr.Call (Expr.Name _ _) _ [] _) _) _ _ _); k_dflt (refine Call_ ?_))
  k_with "m:eval Call Attribute" => ((with_reducible show wpAny _ _ (eval (Expr.Call (Expr.Attribute _ _ _) _ [] _) _) _ _ _); k_dflt (refine MethodCall_ ?_))
  k_with "m:newTuple" => (k_here; k_dflt (refine' kup_newTuple ?Fq7 ?Nq7 ?_ ?zq7; (case Fq7 => k_asm); (case Nq7 => k_asm); (case zq7 => kmk_size)); intro D'q h'q F'q N'q l1q; clear l1q; (try k_sweep))
  k_with "m.k_steps" => repeat' (first | ((fail_if_success (fail_if_success k_unfold)); first | ((with_reducible refine (?_ : wpAny _ _ _ _ _ _)); (try dsimp only)) | (k_unfold; (try dsimp only))) | ((fail_if_success (fail_if_success k_fold)); refine let q'q : _ → _ → Prop := _; let s'q : Shared := _; (?_ : wpAny _ _ _ q'q _ s'q)) | (k_end; kc_close) | walk1 | (dsimp only; walk1) | (show (_ : _ → _ → Prop) _ _; k_unfold; (try dsimp only)) | (dsimp only [List.cons_append, List.nil_append]; walk1) | (leave1; walk_say "STEP leave1"; (try dsimp only)) | fail "no step")
  k_with "m.units_room" => ((have hcL'q := cLine_is); (simp +zetaDelta only [units_in1, units_deeper, Around.mark_units, units_caller, units_under_make]); omega)
  k_with "m.k_in" => first | with_reducible assumption | exact Frag.In.keeps (by k_asm) (Fr.keep (by k_asm))
  k_with "m.omega" => first | with_reducible assumption | (with_reducible show (_ : Nat) ≤ _; first | exact Nat.le_of_ble_eq_true rfl | exact omA (by with_reducible assumption) rfl | exact omB (by with_reducible assumption) rfl | exact omC (by with_reducible assumption) rfl) | (with_reducible show (_ : Nat) < _; first | exact Nat.le_of_ble_eq_true rfl | exact omD (by with_reducible assumption) rfl | exact omE (by with_reducible assumption) rfl) | (with_reducible show (_ : Int) ≤ _; first | decide | exact oiA (by with_reducible assumption) rfl | exact oiE (by with_reducible assumption) rfl | exact oiC (by with_reducible assumption) rfl | exact oiH (by with_reducible assumption) rfl) | (with_reducible show (_ : Int) < _; first | decide | exact oiB (by with_reducible assumption) rfl | exact oiF (by with_reducible assumption) rfl | exact oiG (by with_reducible assumption) rfl | exact oiD (by with_reducible assumption) rfl) | (with_reducible show ¬ ((_ : Int) = _); exact oiI (by with_reducible assumption) rfl) | lia
  k_with "sx" => first | with_reducible exact EI.const | ((with_reducible show EI _ _ _ _ _ (Expr.Name _ _) _); refine' EI.name ?Fq7 ?mq7 ?aq7 ?bq7 ?cq7; (case Fq7 => k_asm); (case mq7 => exact rfl); (case aq7 => exact rfl); (case bq7 => exact rfl); (case cq7 => exact rfl)) | ((with_reducible refine' EI.add ?dq7 ?eq7); (case dq7 => k_extra "sx"); (case eq7 => k_extra "sx")) | ((with_reducible refine' EI.sub ?dq7 ?eq7); (case dq7 => k_extra "sx"); (case eq7 => k_extra "sx")) | ((with_reducible refine' EI.mul ?dq7 ?eq7 ?fq7); (case dq7 => k_extra "sx"); (case eq7 => k_extra "sx"); (case fq7 => mul_fits)) | ((with_reducible refine' EI.mod ?dq7 ?eq7 ?fq7); (case dq7 => k_extra "sx"); (case eq7 => k_extra "sx"); (case fq7 => first | with_reducible assumption | decide | omega))
  k_with "m:eval BinOp" => ((with_reducible show wpAny _ _ (eval (Expr.BinOp _ _ _ _) _) _ _ _); k_dflt (refine' EI.use ?dq7 ?_; (case dq7 => k_extra "sx"); k_whole); intro t'q tk'q)
  k_with "m:exec Assign" => (k_dflt ((first | (with_reducible show wpAny _ _ (exec (Stmt.Assign [Expr.Name _ _] (Expr.BinOp _ _ _ _) _) _) _ _ _) | (with_reducible show wpAny _ _ (exec (Stmt.Assign [Expr.Name _ _] (Expr.Constant (Const.int _) _ _) _) _) _ _ _)); refine' EI.store ?dq7 ?sq7 ?_; (case dq7 => k_extra "sx"); (case sq7 => first | exact rfl | with_unfolding_all rfl); k_whole); intro t'q tk'q)
  k_with "m:eval Compare" => ((with_reducible show wpAny _ _ (eval (Expr.Compare _ _ _ _) _) _ _ _); k_dflt ((first | with_reducible refine' EI.eq ?dq7 ?eq7 ?bq7 ?_ | with_reducible refine' EI.ne ?dq7 ?eq7 ?bq7 ?_); (case dq7 => k_extra "sx"); (case eq7 => k_extra "sx"); (case bq7 => exact rfl); k_whole); intro tk'q)
  k_with "m:isTrue Compare" => ((with_reducible show wpAny _ _ (PySem.isTrue (Expr.Compare _ _ _ _) _ _) _ _ _); k_dflt ((first | with_reducible refine' EI.isEq ?dq7 ?eq7 ?bq7 ?_ | with_reducible refine' EI.isNe ?dq7 ?eq7 ?bq7 ?_ | with_reducible refine' EI.isLt ?dq7 ?eq7 ?bq7 ?_ | with_reducible refine' EI.isGt ?dq7 ?eq7 ?bq7 ?_); (case dq7 => k_extra "sx"); (case eq7 => k_extra "sx"); (case bq7 => exact rfl); k_whole); intro tk'q)
  k_with "sv" => (refine' EV.name ?Fq7 ?mq7 ?aq7 ?bq7 ?cq7; (case Fq7 => k_asm); (case mq7 => exact rfl); (case aq7 => exact rfl); (case bq7 => exact rfl); (case cq7 => exact rfl))
  k_with "m:eval Call" => k_dflt (first | ((with_reducible show wpAny _ _ (eval (Expr.Call (Expr.Name _ _) [Expr.Name _ _] [] _) _) _ _ _); refine' callK_V ?Fq7 ?Xq7 ?Tq7 ?hnq7 ?hkq7 ?k1q7 ?k2q7 ?k3q7 ?d1q7 ?_; (case d1q7 => k_extra "sv"); (case Fq7 => k_asm); (case Xq7 => k_asm); (case Tq7 => k_asm); (case k1q7 => exact rfl); (case k2q7 => exact rfl); (case k3q7 => exact rfl); (case hnq7 => k_is); (case hkq7 => k_is); k_whole; intro  tk'q) | ((with_reducible show wpAny _ _ (eval (Expr.Call (Expr.Name _ _) [_] [] _) _) _ _ _); refine' callK_I ?Fq7 ?Xq7 ?Tq7 ?hnq7 ?hkq7 ?k1q7 ?k2q7 ?k3q7 ?d1q7 ?_; (case d1q7 => k_extra "sx"); (case Fq7 => k_asm); (case Xq7 => k_asm); (case Tq7 => k_asm); (case k1q7 => exact rfl); (case k2q7 => exact rfl); (case k3q7 => exact rfl); (case hnq7 => k_is); (case hkq7 => k_is); k_whole; intro t'q tk'q) | ((with_reducible show wpAny _ _ (eval (Expr.Call (Expr.Name _ _) [Expr.Name _ _, Expr.Name _ _] [] _) _) _ _ _); refine' callK_VV ?Fq7 ?Xq7 ?Tq7 ?hnq7 ?hkq7 ?k1q7 ?k2q7 ?k3q7 ?d1q7 ?d2q7 ?_; (case d1q7 => k_extra "sv"); (case d2q7 => k_extra "sv"); (case Fq7 => k_asm); (case Xq7 => k_asm); (case Tq7 => k_asm); (case k1q7 => exact rfl); (case k2q7 => exact rfl); (case k3q7 => exact rfl); (case hnq7 => k_is); (case hkq7 => k_is); k_whole; intro  tk'q) | ((with_reducible show wpAny _ _ (eval (Expr.Call (Expr.Name _ _) [Expr.Name _ _, _] [] _) _) _ _ _); refine' callK_VI ?Fq7 ?Xq7 ?Tq7 ?hnq7 ?hkq7 ?k1q7 ?k2q7 ?k3q7 ?d1q7 ?d2q7 ?_; (case d1q7 => k_extra "sv"); (case d2q7 => k_extra "sx"); (case Fq7 => k_asm); (case Xq7 => k_asm); (case Tq7 => k_asm); (case k1q7 => exact rfl); (case k2q7 => exact rfl); (case k3q7 => exact rfl); (case hnq7 => k_is); (case hkq7 => k_is); k_whole; intro t'q tk'q) | ((with_reducible show wpAny _ _ (eval (Expr.Call (Expr.Name _ _) [_, Expr.Name _ _] [] _) _) _ _ _); refine' callK_IV ?Fq7 ?Xq7 ?Tq7 ?hnq7 ?hkq7 ?k1q7 ?k2q7 ?k3q7 ?d1q7 ?d2q7 ?_; (case d1q7 => k_extra "sx"); (case d2q7 => k_extra "sv"); (case Fq7 => k_asm); (case Xq7 => k_asm); (case Tq7 => k_asm); (case k1q7 => exact rfl); (case k2q7 => exact rfl); (case k3q7 => exact rfl); (case hnq7 => k_is); (case hkq7 => k_is); k_whole; intro t'q tk'q) | ((with_reducible show wpAny _ _ (eval (Expr.Call (Expr.Name _ _) [_, _] [] _) _) _ _ _); refine' callK_II ?Fq7 ?Xq7 ?Tq7 ?hnq7 ?hkq7 ?k1q7 ?k2q7 ?k3q7 ?d1q7 ?d2q7 ?_; (case d1q7 => k_extra "sx"); (case d2q7 => k_extra "sx"); (case Fq7 => k_asm); (case Xq7 => k_asm); (case Tq7 => k_asm); (case k1q7 => exact rfl); (case k2q7 => exact rfl); (case k3q7 => exact rfl); (case hnq7 => k_is); (case hkq7 => k_is); k_whole; intro t'q t'q tk'q) | ((with_reducible show wpAny _ _ (eval (Expr.Call (Expr.Name _ _) [Expr.Name _ _, Expr.Name _ _, Expr.Name _ _] [] _) _) _ _ _); refine' callK_VVV ?Fq7 ?Xq7 ?Tq7 ?hnq7 ?hkq7 ?k1q7 ?k2q7 ?k3q7 ?d1q7 ?d2q7 ?d3q7 ?_; (case d1q7 => k_extra "sv"); (case d2q7 => k_extra "sv"); (case d3q7 => k_extra "sv"); (case Fq7 => k_asm); (case Xq7 => k_asm); (case Tq7 => k_asm); (case k1q7 => exact rfl); (case k2q7 => exact rfl); (case k3q7 => exact rfl); (case hnq7 => k_is); (case hkq7 => k_is); k_whole; intro  tk'q) | ((with_reducible show wpAny _ _ (eval (Expr.Call (Expr.Name _ _) [Expr.Name _ _, Expr.Name _ _, _] [] _) _) _ _ _); refine' callK_VVI ?Fq7 ?Xq7 ?Tq7 ?hnq7 ?hkq7 ?k1q7 ?k2q7 ?k3q7 ?d1q7 ?d2q7 ?d3q7 ?_; (case d1q7 => k_extra "sv"); (case d2q7 => k_extra "sv"); (case d3q7 => k_extra "sx"); (case Fq7 => k_asm); (case Xq7 => k_asm); (case Tq7 => k_asm); (case k1q7 => exact rfl); (case k2q7 => exact rfl); (case k3q7 => exact rfl); (case hnq7 => k_is); (case hkq7 => k_is); k_whole; intro t'q tk'q) | ((with_reducible show wpAny _ _ (eval (Expr.Call (Expr.Name _ _) [Expr.Name _ _, _, Expr.Name _ _] [] _) _) _ _ _); refine' callK_VIV ?Fq7 ?Xq7 ?Tq7 ?hnq7 ?hkq7 ?k1q7 ?k2q7 ?k3q7 ?d1q7 ?d2q7 ?d3q7 ?_; (case d1q7 => k_extra "sv"); (case d2q7 => k_extra "sx"); (case d3q7 => k_extra "sv"); (case Fq7 => k_asm); (case Xq7 => k_asm); (case Tq7 => k_asm); (case k1q7 => exact rfl); (case k2q7 => exact rfl); (case k3q7 => exact rfl); (case hnq7 => k_is); (case hkq7 => k_is); k_whole; intro t'q tk'q) | ((with_reducible show wpAny _ _ (eval (Expr.Call (Expr.Name _ _) [Expr.Name _ _, _, _] [] _) _) _ _ _); refine' callK_VII ?Fq7 ?Xq7 ?Tq7 ?hnq7 ?hkq7 ?k1q7 ?k2q7 ?k3q7 ?d1q7 ?d2q7 ?d3q7 ?_; (case d1q7 => k_extra "sv"); (case d2q7 => k_extra "sx"); (case d3q7 => k_extra "sx"); (case Fq7 => k_asm); (case Xq7 => k_asm); (case Tq7 => k_asm); (case k1q7 => exact rfl); (case k2q7 => exact rfl); (case k3q7 => exact rfl); (case hnq7 => k_is); (case hkq7 => k_is); k_whole; intro t'q t'q tk'q) | ((with_reducible show wpAny _ _ (eval (Expr.Call (Expr.Name _ _) [Expr.Name _ _, Expr.Name _ _, Expr.Name _ _, Expr.Name _ _] [] _) _) _ _ _); refine' callK_VVVV ?Fq7 ?Xq7 ?Tq7 ?hnq7 ?hkq7 ?k1q7 ?k2q7 ?k3q7 ?d1q7 ?d2q7 ?d3q7 ?d4q7 ?_; (case d1q7 => k_extra "sv"); (case d2q7 => k_extra "sv"); (case d3q7 => k_extra "sv"); (case d4q7 => k_extra "sv"); (case Fq7 => k_asm); (case Xq7 => k_asm); (case Tq7 => k_asm); (case k1q7 => exact rfl); (case k2q7 => exact rfl); (case k3q7 => exact rfl); (case hnq7 => k_is); (case hkq7 => k_is); k_whole; intro  tk'q))
  k_with "sb" => first | ((with_reducible first | refine' EB.eq ?dq7 ?eq7 ?bq7 | refine' EB.ne ?dq7 ?eq7 ?bq7 | refine' EB.lt ?dq7 ?eq7 ?bq7 | refine' EB.le ?dq7 ?eq7 ?bq7 | refine' EB.gt ?dq7 ?eq7 ?bq7); (case dq7 => k_extra "sx"); (case eq7 => k_extra "sx"); (case bq7 => exact rfl)) | ((with_reducible refine' EB.one ?dq7); (case dq7 => k_extra "sb")) | ((with_reducible refine' EB.or ?dq7 ?eq7); (case dq7 => k_extra "sb"); (case eq7 => intro _; k_extra "sb")) | ((with_reducible refine' EB.and ?dq7 ?eq7); (case dq7 => k_extra "sb"); (case eq7 => intro _; k_extra "sb"))
  k_with "m:eval BoolOp" => (k_dflt (refine' EB.use ?dq7 ?_; (case dq7 => k_extra "sb"); k_whole); intro tk'q)
  k_with "m:eval Compare" => (k_dflt (refine' EB.use ?dq7 ?_; (case dq7 => k_extra "sb"); k_whole); intro tk'q)
  k_with "m:call ref" => ((with_reducible show wpAny _ _ (call (Value.ref 562) [Value.ref _, Value.int _ _] _) _ _ _); k_dflt (refine' law_at_c ?qFq7 ?qKq7 ?qDq7 ?qUq7 ?q1q7 ?q2q7 ?q3q7 ?q4q7 ?q5q7 ?rlq7 ?riq7 ?rnq7 ?r0q7 ?_; (k_extra "std"); (case rlq7 => k_asm); (case riq7 => k_asm); (case rnq7 => (first | assumption | omega)); (case r0q7 => (first | assumption | omega | decide)); k_whole; intro t'q h'q tk'q F'q N'q b1q b2q; (try dsimp only); (try k_sweep)))
  k_with "m:call type:bytes" => ((with_reducible show wpAny _ _ (call (Value.type "bytes") [Value.ref _]) _ _ _); (simp only [rangeKs_length] at *); walk_at "call type:bytes")
  k_with "m:call ref" => ((with_reducible show wpAny _ _ (call (Value.ref 621) [Value.int _ _, Value.int _ _] _) _ _ _); k_dflt (refine' octets_c ?qFq7 ?qKq7 ?qDq7 ?qUq7 ?q1q7 ?q2q7 ?q3q7 ?q4q7 ?q5q7 ?rnq7 ?r0q7 ?r1q7 ?r3q7 ?_; (k_extra "std"); (case rnq7 => (exact ⟨by first | assumption | omega, by first | assumption | omega⟩)); (case r0q7 => (first | assumption | exact Int.fmod_nonneg_of_pos _ (by decide) | omega)); (case r1q7 => (first | assumption | exact Int.lt_trans (Int.fmod_lt_of_pos _ (by decide)) (by decide) | omega)); (case r3q7 => (first | exact oct8 _ | exact oct6 _)); k_whole; intro b'q t'q h'q tk'q F'q N'q bsq bzq; (try dsimp only); (try k_sweep)))
  k_with "m:call ref" => ((with_reducible show wpAny _ _ (call (Value.ref 590) [Value.int _ _, Value.int _ _] _) _ _ _); k_dflt (refine' divisor_c ?qFq7 ?qKq7 ?qDq7 ?qUq7 ?q1q7 ?q2q7 ?q3q7 ?q4q7 ?q5q7 ?raq7 ?rbq7 ?_; (k_extra "std"); (case raq7 => (first | assumption | omega)); (case rbq7 => (first | assumption | omega)); k_whole; intro t'q h'q tk'q F'q N'q; (try dsimp only); (try k_sweep)))
  k_with "m.mul_fits" => ((fail_if_success (fail_if_success (with_reducible rename InvP _ _ _ _ _ _ => x9q))); exact mulok_fdiv (by omega) (by assumption) (by assumption))
  k_with "m:binaryOp FloorDiv int int" => (k_here; (fail_if_success (fail_if_success (with_reducible rename InvP _ _ _ _ _ _ => x9q))); (refine floordiv_int (by first | decide | omega) ?_ (Or.inl (noPylong64 (by omega)))))
  k_with "m:call ref" => ((with_reducible show wpAny _ _ (call (Value.ref 99) [Value.int _ _, Value.int _ _] _) _ _ _); k_dflt (refine' inv_c ?qFq7 ?qKq7 ?qDq7 ?qUq7 ?q1q7 ?q2q7 ?q3q7 ?q4q7 ?q5q7 ?rnq7 ?rn2q7 ?rgq7 ?_; (k_extra "std"); (case rnq7 => (first | assumption | omega)); (case rn2q7 => (first | assumption | omega)); (case rgq7 => (first | assumption | exact inv_g1 (by assumption) (by omega) | exact inv_g2 (by assumption))); k_whole; intro r'q t'q h'q tk'q F'q N'q i1q i2q i3q i4q; (try dsimp only); (try k_sweep)))
  k_with "m:storeName" => (k_here; k_dflt (refine' storeM ?Fq7 ?Nq7 ?_ ?aq7 ?bq7; (case Fq7 => k_asm); (case Nq7 => k_asm); (case aq7 => rfl); (case bq7 => rfl); k_whole; intro m'q n'q h'q F'q N'q; (try k_sweep)))
  k_with "m:call ref" => ((with_reducible show wpAny _ _ (call (Value.ref 530) [Value.int _ _, Value.int _ _] _) _ _ _); k_dflt (refine' fq530_new ?qFq7 ?qKq7 ?qDq7 ?qUq7 ?q1q7 ?q2q7 ?q3q7 ?q4q7 ?q5q7 ?rqq7 ?_; (k_extra "std"); (case rqq7 => (first | assumption | omega | decide)); k_whole; intro x'q dx'q t1'q t2'q t3'q t4'q h'q tk'q F'q N'q l1q l2q b1q b2q; (try dsimp only); (try k_sweep); (try k_lt l1q); (try k_lt2 l2q)))
  k_with "m:call ref" => ((with_reducible show wpAny _ _ (call (Value.ref 513) [Value.ref _, Value.int _ _] _) _ _ _); k_dflt (refine' fq530_made ?qFq7 ?qKq7 ?qDq7 ?qUq7 ?q1q7 ?q2q7 ?q3q7 ?q4q7 ?q5q7 ?rxq7 ?rdxq7 ?rqq7 ?_; (k_extra "std"); (case rxq7 => k_mem); (case rdxq7 => k_mem); (case rqq7 => (first | assumption | omega)); k_whole; intro x'q dx'q t1'q t2'q t3'q t4'q h'q tk'q F'q N'q l1q l2q b1q b2q; (try dsimp only); (try k_sweep); clear l1q l2q))
  k_with "m:call ref" => ((with_reducible show wpAny _ _ (call (Value.ref 530) [Value.int _ _, Value.int _ _] _) _ _ _); k_dflt (refine' fq530_new ?qFq7 ?qKq7 ?qDq7 ?qUq7 ?q1q7 ?q2q7 ?q3q7 ?q4q7 ?q5q7 ?rqq7 ?_; (k_extra "std"); (case rqq7 => (first | assumption | omega | decide)); k_whole; intro x'q dx'q t1'q t2'q t3'q t4'q h'q tk'q F'q N'q l1q l2q b1q b2q; (try dsimp only); (try k_sweep); clear l1q l2q))
  k_with "m:call ref" => ((with_reducible show wpAny _ _ (call (Value.ref 527) [Value.ref _] _) _ _ _); k_dflt (refine' fq530_zero ?qFq7 ?qKq7 ?qDq7 ?qUq7 ?q1q7 ?q2q7 ?q3q7 ?q4q7 ?q5q7 ?rxq7 ?rdxq7 ?rqq7 ?_; (k_extra "std"); (case rxq7 => k_mem); (case rdxq7 => k_mem); (case rqq7 => (first | assumption | omega)); k_whole; intro x'q dx'q t1'q t2'q t3'q t4'q h'q tk'q F'q N'q; (try dsimp only); (try k_sweep)))
  k_with "m:call ref" => ((with_reducible show wpAny _ _ (call (Value.ref 400) [Value.ref _, Value.ref _] _) _ _ _); k_dflt (refine' fq530_mul ?qFq7 ?qKq7 ?qDq7 ?qUq7 ?q1q7 ?q2q7 ?q3q7 ?q4q7 ?q5q7 ?rxq7 ?rdxq7 ?ryq7 ?rdyq7 ?rqq7 ?rn0q7 ?rn1q7 ?rq2q7 ?_; (k_extra "std"); (case rxq7 => k_mem); (case rdxq7 => k_mem); (case ryq7 => k_mem); (case rdyq7 => k_mem); (case rqq7 => (first | assumption | omega)); (case rn0q7 => (first | assumption | omega)); (case rn1q7 => (first | assumption | omega)); (case rq2q7 => (first | assumption | omega)); k_whole; intro x'q dx'q t1'q t2'q t3'q t4'q h'q tk'q F'q N'q b1q b2q; (try dsimp only); (try k_sweep)))
  k_with "m:call ref" => ((with_reducible show wpAny _ _ (call (Value.ref 428) [Value.ref _, Value.ref _] _) _ _ _); k_dflt (refine' fq530_sub ?qFq7 ?qKq7 ?qDq7 ?qUq7 ?q1q7 ?q2q7 ?q3q7 ?q4q7 ?q5q7 ?rxq7 ?rdxq7 ?ryq7 ?rdyq7 ?rqq7 ?rn0q7 ?rn1q7 ?rq2q7 ?_; (k_extra "std"); (case rxq7 => k_mem); (case rdxq7 => k_mem); (case ryq7 => k_mem); (case rdyq7 => k_mem); (case rqq7 => (first | assumption | omega)); (case rn0q7 => (first | assumption | omega)); (case rn1q7 => (first | assumption | omega)); (case rq2q7 => (first | assumption | omega)); k_whole; intro x'q dx'q t1'q t2'q t3'q t4'q h'q tk'q F'q N'q b1q b2q; (try dsimp only); (try k_sweep)))
  k_with "m:call ref" => ((with_reducible show wpAny _ _ (call (Value.ref 456) [Value.ref _, Value.int _ _] _) _ _ _); k_dflt (refine' fq530_pow1 ?qFq7 ?qKq7 ?qDq7 ?qUq7 ?q1q7 ?q2q7 ?q3q7 ?q4q7 ?q5q7 ?rxq7 ?rdxq7 ?rqq7 ?rn0q7 ?rn1q7 ?rq2q7 ?_; (k_extra "std"); (case rxq7 => k_mem); (case rdxq7 => k_mem); (case rqq7 => (first | assumption | omega)); (case rn0q7 => (first | assumption | omega)); (case rn1q7 => (first | assumption | omega)); (case rq2q7 => (first | assumption | omega)); k_whole; intro x'q dx'q t1'q t2'q t3'q t4'q h'q tk'q F'q N'q b1q b2q; (try dsimp only); (try k_sweep)))
  k_with "m:call ref" => ((with_reducible show wpAny _ _ (call (Value.ref 456) [Value.ref _, Value.int _ _] _) _ _ _); k_dflt (refine' fq530_pow2 ?qFq7 ?qKq7 ?qDq7 ?qUq7 ?q1q7 ?q2q7 ?q3q7 ?q4q7 ?q5q7 ?rxq7 ?rdxq7 ?rqq7 ?rn0q7 ?rn1q7 ?rq2q7 ?_; (k_extra "std"); (case rxq7 => k_mem); (case rdxq7 => k_mem); (case rqq7 => (first | assumption | omega)); (case rn0q7 => (first | assumption | omega)); (case rn1q7 => (first | assumption | omega)); (case rq2q7 => (first | assumption | omega)); k_whole; intro x'q dx'q t1'q t2'q t3'q t4'q h'q tk'q F'q N'q b1q b2q; (try dsimp only); (try k_sweep)))
  k_with "m:call ref" => ((with_reducible show wpAny _ _ (call (Value.ref 456) [Value.ref _, Value.int _ _] _) _ _ _); k_dflt (refine' fq530_pow3 ?qFq7 ?qKq7 ?qDq7 ?qUq7 ?q1q7 ?q2q7 ?q3q7 ?q4q7 ?q5q7 ?rxq7 ?rdxq7 ?rqq7 ?rn0q7 ?rn1q7 ?rq2q7 ?_; (k_extra "std"); (case rxq7 => k_mem); (case rdxq7 => k_mem); (case rqq7 => (first | assumption | omega)); (case rn0q7 => (first | assumption | omega)); (case rn1q7 => (first | assumption | omega)); (case rq2q7 => (first | assumption | omega)); k_whole; intro x'q dx'q t1'q t2'q t3'q t4'q h'q tk'q F'q N'q b1q b2q; (try dsimp only); (try k_sweep)))
  k_with "m:call ref" => ((with_reducible show wpAny _ _ (call (Value.ref 463) [Value.ref _, Value.ref _] _) _ _ _); k_dflt (refine' fq530_eq ?qFq7 ?qKq7 ?qDq7 ?qUq7 ?q1q7 ?q2q7 ?q3q7 ?q4q7 ?q5q7 ?rxq7 ?rdxq7 ?ryq7 ?rdyq7 ?_; (k_extra "std"); (case rxq7 => k_mem); (case rdxq7 => k_mem); (case ryq7 => k_mem); (case rdyq7 => k_mem); k_whole; intro h'q tk'q F'q N'q; (try dsimp only); (try k_sweep)))
  k_with "m:call ref" => ((with_reducible show wpAny _ _ (call (Value.ref 254) [Value.int _ _, Value.int _ _] _) _ _ _); k_dflt (refine' fq254_new ?qFq7 ?qKq7 ?qDq7 ?qUq7 ?q1q7 ?q2q7 ?q3q7 ?q4q7 ?q5q7 ?rqq7 ?_; (k_extra "std"); (case rqq7 => (first | assumption | omega | decide)); k_whole; intro x'q dx'q t1'q t2'q t3'q t4'q h'q tk'q F'q N'q l1q l2q b1q b2q; (try dsimp only); (try k_sweep); (try k_lt l1q); (try k_lt2 l2q)))
  k_with "m:call ref" => ((with_reducible show wpAny _ _ (call (Value.ref 254) [Value.ref _, Value.int _ _] _) _ _ _); k_dflt (refine' fq254_newfq ?qFq7 ?qKq7 ?qDq7 ?qUq7 ?q1q7 ?q2q7 ?q3q7 ?q4q7 ?q5q7 ?rxq7 ?rdxq7 ?_; (k_extra "std"); (case rxq7 => k_mem); (case rdxq7 => k_mem); k_whole; intro x'q dx'q t1'q t2'q t3'q t4'q h'q tk'q F'q N'q l1q l2q; (try dsimp only); (try k_sweep); (try k_lt l1q); (try k_lt2 l2q)))
  k_with "m:call ref" => ((with_reducible show wpAny _ _ (call (Value.ref 237) [Value.ref _, Value.int _ _] _) _ _ _); k_dflt (refine' fq254_made ?qFq7 ?qKq7 ?qDq7 ?qUq7 ?q1q7 ?q2q7 ?q3q7 ?q4q7 ?q5q7 ?rxq7 ?rdxq7 ?rqq7 ?_; (k_extra "std"); (case rxq7 => k_mem); (case rdxq7 => k_mem); (case rqq7 => (first | assumption | omega)); k_whole; intro x'q dx'q t1'q t2'q t3'q t4'q h'q tk'q F'q N'q l1q l2q b1q b2q; (try dsimp only); (try k_sweep); clear l1q l2q))
  k_with "m:call ref" => ((with_reducible show wpAny _ _ (call (Value.ref 254) [Value.int _ _, Value.int _ _] _) _ _ _); k_dflt (refine' fq254_new ?qFq7 ?qKq7 ?qDq7 ?qUq7 ?q1q7 ?q2q7 ?q3q7 ?q4q7 ?q5q7 ?rqq7 ?_; (k_extra "std"); (case rqq7 => (first | assumption | omega | decide)); k_whole; intro x'q dx'q t1'q t2'q t3'q t4'q h'q tk'q F'q N'q l1q l2q b1q b2q; (try dsimp only); (try k_sweep); clear l1q l2q))
  k_with "m:call ref" => ((with_reducible show wpAny _ _ (call (Value.ref 254) [Value.ref _, Value.int _ _] _) _ _ _); k_dflt (refine' fq254_newfq ?qFq7 ?qKq7 ?qDq7 ?qUq7 ?q1q7 ?q2q7 ?q3q7 ?q4q7 ?q5q7 ?rxq7 ?rdxq7 ?_; (k_extra "std"); (case rxq7 => k_mem); (case rdxq7 => k_mem); k_whole; intro x'q dx'q t1'q t2'q t3'q t4'q h'q tk'q F'q N'q l1q l2q; (try dsimp only); (try k_sweep); clear l1q l2q))
  k_with "m:call ref" => ((with_reducible show wpAny _ _ (call (Value.ref 139) [Value.ref _, Value.ref _] _) _ _ _); k_dflt (refine' fq254_mul ?qFq7 ?qKq7 ?qDq7 ?qUq7 ?q1q7 ?q2q7 ?q3q7 ?q4q7 ?q5q7 ?rxq7 ?rdxq7 ?ryq7 ?rdyq7 ?rqq7 ?rn0q7 ?rn1q7 ?rq2q7 ?_; (k_extra "std"); (case rxq7 => k_mem); (case rdxq7 => k_mem); (case ryq7 => k_mem); (case rdyq7 => k_mem); (case rqq7 => (first | assumption | omega)); (case rn0q7 => (first | assumption | omega)); (case rn1q7 => (first | assumption | omega)); (case rq2q7 => (first | assumption | omega)); k_whole; intro x'q dx'q t1'q t2'q t3'q t4'q h'q tk'q F'q N'q b1q b2q; (try dsimp only); (try k_sweep)))
  k_with "m:call ref" => ((with_reducible show wpAny _ _ (call (Value.ref 167) [Value.ref _, Value.ref _] _) _ _ _); k_dflt (refine' fq254_sub ?qFq7 ?qKq7 ?qDq7 ?qUq7 ?q1q7 ?q2q7 ?q3q7 ?q4q7 ?q5q7 ?rxq7 ?rdxq7 ?ryq7 ?rdyq7 ?rqq7 ?rn0q7 ?rn1q7 ?rq2q7 ?_; (k_extra "std"); (case rxq7 => k_mem); (case rdxq7 => k_mem); (case ryq7 => k_mem); (case rdyq7 => k_mem); (case rqq7 => (first | assumption | omega)); (case rn0q7 => (first | assumption | omega)); (case rn1q7 => (first | assumption | omega)); (case rq2q7 => (first | assumption | omega)); k_whole; intro x'q dx'q t1'q t2'q t3'q t4'q h'q tk'q F'q N'q b1q b2q; (try dsimp only); (try k_sweep)))
  k_with "m:call ref" => ((with_reducible show wpAny _ _ (call (Value.ref 132) [Value.ref _, Value.ref _] _) _ _ _); k_dflt (refine' fq254_add ?qFq7 ?qKq7 ?qDq7 ?qUq7 ?q1q7 ?q2q7 ?q3q7 ?q4q7 ?q5q7 ?rxq7 ?rdxq7 ?ryq7 ?rdyq7 ?rqq7 ?rn0q7 ?rn1q7 ?rq2q7 ?_; (k_extra "std"); (case rxq7 => k_mem); (case rdxq7 => k_mem); (case ryq7 => k_mem); (case rdyq7 => k_mem); (case rqq7 => (first | assumption | omega)); (case rn0q7 => (first | assumption | omega)); (case rn1q7 => (first | assumption | omega)); (case rq2q7 => (first | assumption | omega)); k_whole; intro x'q dx'q t1'q t2'q t3'q t4'q h'q tk'q F'q N'q b1q b2q; (try dsimp only); (try k_sweep)))
  k_with "m:call ref" => ((with_reducible show wpAny _ _ (call (Value.ref 188) [Value.ref _, Value.int _ _] _) _ _ _); k_dflt (refine' fq254_pow1 ?qFq7 ?qKq7 ?qDq7 ?qUq7 ?q1q7 ?q2q7 ?q3q7 ?q4q7 ?q5q7 ?rxq7 ?rdxq7 ?rqq7 ?rn0q7 ?rn1q7 ?rq2q7 ?_; (k_extra "std"); (case rxq7 => k_mem); (case rdxq7 => k_mem); (case rqq7 => (first | assumption | omega)); (case rn0q7 => (first | assumption | omega)); (case rn1q7 => (first | assumption | omega)); (case rq2q7 => (first | assumption | omega)); k_whole; intro x'q dx'q t1'q t2'q t3'q t4'q h'q tk'q F'q N'q b1q b2q; (try dsimp only); (try k_sweep)))
  k_with "m:call ref" => ((with_reducible show wpAny _ _ (call (Value.ref 188) [Value.ref _, Value.int _ _] _) _ _ _); k_dflt (refine' fq254_pow2 ?qFq7 ?qKq7 ?qDq7 ?qUq7 ?q1q7 ?q2q7 ?q3q7 ?q4q7 ?q5q7 ?rxq7 ?rdxq7 ?rqq7 ?rn0q7 ?rn1q7 ?rq2q7 ?_; (k_extra "std"); (case rxq7 => k_mem); (case rdxq7 => k_mem); (case rqq7 => (first | assumption | omega)); (case rn0q7 => (first | assumption | omega)); (case rn1q7 => (first | assumption | omega)); (case rq2q7 => (first | assumption | omega)); k_whole; intro x'q dx'q t1'q t2'q t3'q t4'q h'q tk'q F'q N'q b1q b2q; (try dsimp only); (try k_sweep)))
  k_with "m:call ref" => ((with_reducible show wpAny _ _ (call (Value.ref 188) [Value.ref _, Value.int _ _] _) _ _ _); k_dflt (refine' fq254_pow3 ?qFq7 ?qKq7 ?qDq7 ?qUq7 ?q1q7 ?q2q7 ?q3q7 ?q4q7 ?q5q7 ?rxq7 ?rdxq7 ?rqq7 ?rn0q7 ?rn1q7 ?rq2q7 ?_; (k_extra "std"); (case rxq7 => k_mem); (case rdxq7 => k_mem); (case rqq7 => (first | assumption | omega)); (case rn0q7 => (first | assumption | omega)); (case rn1q7 => (first | assumption | omega)); (case rq2q7 => (first | assumption | omega)); k_whole; intro x'q dx'q t1'q t2'q t3'q t4'q h'q tk'q F'q N'q b1q b2q; (try dsimp only); (try k_sweep)))
  k_with "m:call ref" => ((with_reducible show wpAny _ _ (call (Value.ref 195) [Value.ref _, Value.ref _] _) _ _ _); k_dflt (refine' fq254_eq ?qFq7 ?qKq7 ?qDq7 ?qUq7 ?q1q7 ?q2q7 ?q3q7 ?q4q7 ?q5q7 ?rxq7 ?rdxq7 ?ryq7 ?rdyq7 ?_; (k_extra "std"); (case rxq7 => k_mem); (case rdxq7 => k_mem); (case ryq7 => k_mem); (case rdyq7 => k_mem); k_whole; intro h'q tk'q F'q N'q; (try dsimp only); (try k_sweep)))
  k_with "m:call ref" => ((with_reducible show wpAny _ _ (call (Value.ref 254) [Value.int _ _, Value.int _ _] _) _ _ _); k_dflt (refine' fq254_new ?qFq7 ?qKq7 ?qDq7 ?qUq7 ?q1q7 ?q2q7 ?q3q7 ?q4q7 ?q5q7 ?rqq7 ?_; (k_extra "std"); (case rqq7 => (first | assumption | omega | decide)); k_whole; intro x'q dx'q t1'q t2'q t3'q t4'q h'q tk'q F'q N'q l1q l2q b1q b2q; (try dsimp only); (try k_sweep)))
  k_with "m:call ref" => ((with_reducible show wpAny _ _ (call (Value.ref 254) [Value.ref _, Value.int _ _] _) _ _ _); k_dflt (refine' fq254_newfq ?qFq7 ?qKq7 ?qDq7 ?qUq7 ?q1q7 ?q2q7 ?q3q7 ?q4q7 ?q5q7 ?rxq7 ?rdxq7 ?_; (k_extra "std"); (case rxq7 => k_mem); (case rdxq7 => k_mem); k_whole; intro x'q dx'q t1'q t2'q t3'q t4'q h'q tk'q F'q N'q l1q l2q; (try dsimp only); (try k_sweep)))
  k_with "m:call ref" => ((with_reducible show wpAny _ _ (call (Value.ref 286) [Value.ref _, Value.int _ _] _) _ _ _); k_dflt (refine' corr1_int ?qFq7 ?qKq7 ?qDq7 ?qUq7 ?q1q7 ?q2q7 ?q3q7 ?q4q7 ?q5q7 ?rxq7 ?rdxq7 ?rqq7 ?_; (k_extra "std"); (case rxq7 => k_mem); (case rdxq7 => k_mem); (case rqq7 => (first | assumption | omega)); k_whole; intro x'q dx'q t1'q t2'q t3'q t4'q h'q tk'q F'q N'q l1q l2q b1q b2q; (try dsimp only); (try k_sweep)))
  k_with "m:call ref" => ((with_reducible show wpAny _ _ (call (Value.ref 286) [Value.ref _, Value.ref _] _) _ _ _); k_dflt (refine' corr1_fq ?qFq7 ?qKq7 ?qDq7 ?qUq7 ?q1q7 ?q2q7 ?q3q7 ?q4q7 ?q5q7 ?rxq7 ?rdxq7 ?ryq7 ?rdyq7 ?_; (k_extra "std"); (case rxq7 => k_mem); (case rdxq7 => k_mem); (case ryq7 => k_mem); (case rdyq7 => k_mem); k_whole; intro x'q dx'q t1'q t2'q t3'q t4'q h'q tk'q F'q N'q l1q l2q; (try dsimp only); (try k_sweep)))
  k_with "m:call ref" => ((with_reducible show wpAny _ _ (call (Value.ref 237) [Value.ref _, Value.int _ _] _) _ _ _); k_dflt (refine' fq254_made ?qFq7 ?qKq7 ?qDq7 ?qUq7 ?q1q7 ?q2q7 ?q3q7 ?q4q7 ?q5q7 ?rxq7 ?rdxq7 ?rqq7 ?_; (k_extra "std"); (case rxq7 => k_mem); (case rdxq7 => k_mem); (case rqq7 => (first | assumption | omega)); k_whole; intro x'q dx'q t1'q t2'q t3'q t4'q h'q tk'q F'q N'q l1q l2q b1q b2q; (try dsimp only); (try k_sweep)))
  k_with "m:call ref" => ((with_reducible show wpAny _ _ (call (Value.ref 139) [Value.ref _, Value.ref _] _) _ _ _); k_dflt (refine' fq254_mulF ?qFq7 ?qKq7 ?qDq7 ?qUq7 ?q1q7 ?q2q7 ?q3q7 ?q4q7 ?q5q7 ?rxq7 ?rdxq7 ?ryq7 ?rdyq7 ?rqq7 ?rn0q7 ?rn1q7 ?rq2q7 ?_; (k_extra "std"); (case rxq7 => k_mem); (case rdxq7 => k_mem); (case ryq7 => k_mem); (case rdyq7 => k_mem); (case rqq7 => (first | assumption | omega)); (case rn0q7 => (first | assumption | omega)); (case rn1q7 => (first | assumption | omega)); (case rq2q7 => (first | assumption | omega)); k_whole; intro x'q dx'q t1'q t2'q t3'q t4'q h'q tk'q F'q N'q l1q l2q b1q b2q; (try dsimp only); (try k_sweep)))
  k_with "m:call ref" => ((with_reducible show wpAny _ _ (call (Value.ref 167) [Value.ref _, Value.ref _] _) _ _ _); k_dflt (refine' fq254_subF ?qFq7 ?qKq7 ?qDq7 ?qUq7 ?q1q7 ?q2q7 ?q3q7 ?q4q7 ?q5q7 ?rxq7 ?rdxq7 ?ryq7 ?rdyq7 ?rqq7 ?rn0q7 ?rn1q7 ?rq2q7 ?_; (k_extra "std"); (case rxq7 => k_mem); (case rdxq7 => k_mem); (case ryq7 => k_mem); (case rdyq7 => k_mem); (case rqq7 => (first | assumption | omega)); (case rn0q7 => (first | assumption | omega)); (case rn1q7 => (first | assumption | omega)); (case rq2q7 => (first | assumption | omega)); k_whole; intro x'q dx'q t1'q t2'q t3'q t4'q h'q tk'q F'q N'q l1q l2q b1q b2q; (try dsimp only); (try k_sweep)))
  k_with "m:call ref" => ((with_reducible show wpAny _ _ (call (Value.ref 132) [Value.ref _, Value.ref _] _) _ _ _); k_dflt (refine' fq254_addF ?qFq7 ?qKq7 ?qDq7 ?qUq7 ?q1q7 ?q2q7 ?q3q7 ?q4q7 ?q5q7 ?rxq7 ?rdxq7 ?ryq7 ?rdyq7 ?rqq7 ?rn0q7 ?rn1q7 ?rq2q7 ?_; (k_extra "std"); (case rxq7 => k_mem); (case rdxq7 => k_mem); (case ryq7 => k_mem); (case rdyq7 => k_mem); (case rqq7 => (first | assumption | omega)); (case rn0q7 => (first | assumption | omega)); (case rn1q7 => (first | assumption | omega)); (case rq2q7 => (first | assumption | omega)); k_whole; intro x'q dx'q t1'q t2'q t3'q t4'q h'q tk'q F'q N'q l1q l2q b1q b2q; (try dsimp only); (try k_sweep)))
  k_with "m:pyIter bytes" => (rename Fr _ _ _ _ => hF9; rename News _ _ _ _ => hN9q; (k_dflt (refine' iterBytes_cell ?hh9q7 hF9 hN9q ?hd9q7 ?hne9q7 ?turn9q7 ?done9q7; (case hh9q7 => exact rfl); (case hd9q7 => assumption); (case hne9q7 => assumption); k_whole)); (try clear hF9 hN9q))
  k_with "m:subscriptTail" => (k_here; (with_reducible show wpAny _ _ (subscriptTail _ (Expr.Slice _ _ none _) (Value.bytes _ _) (Value.ref _)) _ _ _); (with_reducible rename Fr _ _ _ _ => F'q); (with_reducible rename News _ _ _ _ => N'q); (refine KBc.slice_K (s := ⟨_, _, _, _, _⟩) F'q N'q rfl (by constructor) (by constructor) (by rw [KBw.ints_length]; first | assumption | omega | (simp [byteArr, rangeKs_length]; done)) ?_); intro _ _ _ _ _ kbcKq; clear kbcKq)
  k_with "m.k_all" => assumption
  k_with "m:truthy bool" => (with_reducible refine truthy_ne_self ?_)
  k_with "m:eval GeneratorExp" => refine StopAt.go ?_
  k_with "m:call builtin:len" => first | ((with_reducible show wpAny _ _ (call (Value.builtin "len") [Value.ref _]) _ _ _); k_dflt (first | (refine lenL (News.isList (by k_asm) (by k_mem)) (by with_reducible assumption) ?kzq7 ?_; (case kzq7 => omega)) | (refine lenT (News.isTup (by k_asm) (by k_mem)) (by with_reducible assumption) ?kzq7 ?_; (case kzq7 => omega))))
  k_with "m:callWith ref" => (k_here; (with_reducible show wpAny _ _ (callWith _ (Value.ref _) _ (backTo _ (starEach (_ :: _) _)) []) _ _ _); k_dflt (refine' callWith_K ?k1q7 ?k2q7 ?_; (case k1q7 => k_asm); (case k2q7 => k_is); k_whole))
  k_with "m:eval Name" => ((with_reducible show wpAny _ _ (eval (PySem.Expr.Name _ _) (genEnv _ _ _ _ _ _)) _ _ _); k_dflt (first | (refine' ge_loc ?Fq7 ?vq7 ?_ ?aq7 ?bq7; (case aq7 => rfl); (case bq7 => rfl); (case Fq7 => k_asm); (case vq7 => with_reducible assumption); k_whole) | (refine' ge_free ?Nq7 ?cq7 ?mq7 ?dq7 ?_ ?aq7 ?bq7; (case aq7 => rfl); (case bq7 => rfl); (case Nq7 => k_asm); (case cq7 => rfl); (case mq7 => k_mem); (case dq7 => assumption); k_whole)))
  k_with "m:call type:tuple" => first | ((with_reducible show wpAny _ _ (call (Value.type _) [Value.ref _]) _ _ _); k_dflt (first | (refine' kde_tupleOf ?k1q7 ?k2q7 (News.isList ?k6q7 ?k7q7) ?k4q7 ?k5q7 ?_; (case k1q7 => k_asm); (case k2q7 => k_asm); (case k6q7 => k_asm); (case k7q7 => k_mem); (case k4q7 => (rw [List.size_toArray]; omega)); (case k5q7 => exact rfl); k_whole; intro D'q h'q F'q N'q l1q; (try k_lt l1q); (try k_sweep)) | (refine' call_tuple_tup (News.isTup ?k6q7 ?k7q7) ?_; (case k6q7 => k_asm); (case k7q7 => k_mem); k_whole)))
  k_with "m:call type:tuple" => ((with_reducible show wpAny _ _ (call (Value.type _) [Value.ref _]) _ _ _); (with_reducible rename GenT _ _ _ _ _ _ _ _ _ _ _ _ => gt9q); (k_dflt (refine gt9q _ _ ?_)); clear gt9q; intro D'q vs'q objs'q h'q tk'q gn'q FqA'q F'q N'q dis'q lt'q gb'q; (have N5q := regroup N'q); (have ne5q := regroup_ne (D := D'q) dis'q (by assumption)); (have lt5q := regroup_lt lt'q); (have T5q := regroup_T dis'q); clear N'q dis'q lt'q; (try k_sweep))
  k_with "m.k_mem" => first | ((repeat (first | with_reducible assumption | with_reducible exact List.mem_cons_self | apply List.mem_cons_of_mem | apply List.mem_append_right)); done)
  trivial
-- piece made
theorem lay80 : True := by
  k_with "m:call ref" => ((with_reducible show wpAny _ _ (call (Value.ref 368) [Value.ref _, Value.ref _, Value.int _ _] _) _ _ _); (with_reducible rename News _ _ _ _ => N9q); (k_dflt (refine' fqp_new (ps := _) ?qFq7 ?qKq7 ?qDq7 ?qUq7 ?q1q7 ?q2q7 ?q3q7 ?q4q7 ?q5q7 ?t1q7 ?t2q7 ?t3q7 ?l1q7 ?l2q7 ?m1q7 ?m2q7 ?v1q7 ?v2q7 ?v3q7 ?v4q7 ?v5q7 ?v6q7 ?v7q7 ?_; (case qFq7 => first | assumption | exact rfl); (case qKq7 => first | assumption | exact rfl); (case qDq7 => ((try simp +zetaDelta only [depth_mark, depth_under_make, depth_under_kw, depth_in1, depth_deeper]); (try dsimp only); omega)); (case qUq7 => ((try simp +zetaDelta only [units_under_make, units_in1, units_deeper, Around.mark_units]); (try dsimp only); omega)); (case q1q7 => k_asm); (case q2q7 => k_asm); (case q3q7 => k_asm); (case q4q7 => exact Pull.news N9q (by repeat (first | with_reducible exact Pull.here | with_reducible apply Pull.there))); (case q5q7 => k_asm); (case t1q7 => assumption); (case t2q7 => assumption); (case t3q7 => (first | assumption | ((repeat (refine List.forall_mem_cons.mpr (And.intro (by first | decide | exact Nat.ne_of_gt (by omega)) ?_))); first | with_reducible assumption | exact List.forall_mem_nil _))); (case l1q7 => k_mem); (case l2q7 => (first | exact Or.inl ⟨_, rfl⟩ | exact Or.inr rfl)); (case m1q7 => k_mem); (case m2q7 => (first | exact Or.inl ⟨_, rfl⟩ | exact Or.inr rfl)); (case v1q7 => assumption); (case v2q7 => assumption); (case v3q7 => assumption); (case v4q7 => assumption); (case v5q7 => assumption); (case v6q7 => first | assumption | omega | decide); (case v7q7 => assumption); k_whole; intro x'q objs'q ps'q h'q tk'q gn'q ht'q FA'q ne'q F'q N'q gb'q; (try k_sweep))))
  trivial
section
variable {w : World} {p : Program} {loose : List Str} {mean : ExcName → Option Value} {mg mb : Str → Option Value} {dp un : Nat} {gd : Option (List Code)} {A₀ : Around} {env : Env} {outer : List Env} {base h₀ : Heap} {L : Addr} {m : Str → Option Value} {s : Shared} {Q E : Value → Shared → Prop} {news : List (Addr × Obj)}
set_option maxRecDepth 100000 in
set_option maxHeartbeats 8000000 in
theorem fqp_made {x dx tc l : Addr} {tm : Addr} {oL : Obj} {vs ms : List Value} {ns rows : List Int} {dn : Nat} {q dg : Int} {a1 a2 a3 a4 a5 a6 : Tok} {ps : Array Value}
    (hf : env.frame = some L) (hke : env.scope.kind = .function) (hdp : dp ≤ 830) (hun : un ≤ 8300)
    (B : Below A₀ base outer h₀) (F : Fr h₀ L s.heap m) (X : (hd.heap_1 w.params).In h₀) (N : News h₀ L s.heap ((267, tabObj ps) :: news)) (T : Top p loose mean mg mb h₀)
    (ht : TabX gpos ps) (C : CodeW base 271 267) (hne : ∀ p ∈ news, p.1 ≠ 267)
    (hx : (x, instObj 368 dx) ∈ news) (hdx : (dx, p4D w.params q tc tm dg a1 a2 a3 a4 a5 a6) ∈ news) (hm : (tm, tupO ms.toArray) ∈ news)
    (hl : (l, oL) ∈ news) (hol : (∃ cap, oL = W.listOf vs.toArray cap) ∨ oL = tupO vs.toArray)
    (hv : ∀ (i : Nat) v n, vs[i]? = some v → ns[i]? = some n → Coef w.params q news v n) (hms : IntsAre ms rows) (hvn : vs.length = dn) (hmn : ms.length = dn) (hnn : ns.length = dn) (hz : dn ≤ 16) (hq : 0 < q)
    (hret : ∀ (x : Addr) (objs : List (Addr × Obj)) (ps' : Array Value) (h' : Heap) (tk' : Nat) (gn : Array GenState), TabX gpos ps' → FqpAt w.params q x ns rows (objs ++ news) → (∀ p ∈ objs, p.1 ≠ 267) → Fr h₀ L h' m → News h₀ L h' (objs ++ (267, tabObj ps') :: news) → (AllBare s.gens → AllBare gn) → Q (.ref x) { s with heap := h', toks := tk', gens := gn }) :
    wpAny (model PR w) (ar dp un gd env outer) (call (.ref 279) [.ref x, .ref l]) Q E s := by
  refine wpAny_call ?_
  rcases hol with ⟨cap, rfl⟩ | rfl
  · k_dflt k_enter
    k_steps
    exact hret _ _ _ _ _ _ (by assumption) (by assumption) (by assumption) (by k_asm) (by k_asm) (by assumption)
  · k_dflt k_enter
    k_steps
    exact hret _ _ _ _ _ _ (by assumption) (by assumption) (by assumption) (by k_asm) (by k_asm) (by assumption)
end

-- piece mul
theorem idx2 (i j : Nat) : 0 + (i : Int) + (0 + (j : Int)) = ((i + j : Nat) : Int) := by omega
theorem FqL.len {P : Params} {p : Int} {objs : List (Addr × Obj)} {vs : List Value} {ns : List Int} (h : FqL P p objs vs ns) : vs.length = ns.length := h.1
theorem inQ_zero {q : Int} (hq : 0 < q) (n : Nat) : InQ q (List.replicate n 0) := by
  intro v hv
  rw [(List.mem_replicate.mp hv).2]
  exact ⟨Int.le_refl 0, hq⟩
theorem news_in {h₀ h : Heap} {L : Addr} {I b : Addr × Obj} {objs led : List (Addr × Obj)} (N : News h₀ L h (I :: b :: (objs ++ led))) : News h₀ L h (b :: (objs ++ I :: led)) := fun p hp => by
  apply N p
  simp only [List.mem_cons, List.mem_append] at hp ⊢
  rcases hp with h | h | h | h
  · exact .inr (.inl h)
  · exact .inr (.inr (.inl h))
  · exact .inl h
  · exact .inr (.inr (.inr h))
noncomputable def FreshD (d : Addr) (l : List (Addr × Obj)) : Prop := ∀ p ∈ l, p.1 < d
theorem lay81 : True := by
  k_with "m:call ref" => ((with_reducible show wpAny _ _ (call (Value.ref 286) [Value.ref _, Value.int _ _] _) _ _ _); k_dflt (refine' corr4_int ?qFq7 ?qKq7 ?qDq7 ?qUq7 ?q1q7 ?q2q7 ?q3q7 ?q4q7 ?q5q7 ?rxq7 ?rdxq7 ?rqq7 ?_; (k_extra "std"); (case rxq7 => k_mem); (case rdxq7 => k_mem); (case rqq7 => (first | assumption | omega)); k_whole; intro x'q dx'q t1'q t2'q t3'q t4'q h'q tk'q F'q N'q l1q l2q b1q b2q; (try dsimp only); (try k_sweep); (have l9q : FreshD _ _ := l1q); (k_lt l1q); (k_lt2 l2q)))
  k_with "m:call ref" => ((with_reducible show wpAny _ _ (call (Value.ref 139) [Value.ref _, Value.ref _] _) _ _ _); k_dflt (refine' fq254_mulF ?qFq7 ?qKq7 ?qDq7 ?qUq7 ?q1q7 ?q2q7 ?q3q7 ?q4q7 ?q5q7 ?rxq7 ?rdxq7 ?ryq7 ?rdyq7 ?rqq7 ?rn0q7 ?rn1q7 ?rq2q7 ?_; (k_extra "std"); (case rxq7 => k_mem); (case rdxq7 => k_mem); (case ryq7 => k_mem); (case rdyq7 => k_mem); (case rqq7 => (first | assumption | omega)); (case rn0q7 => (first | assumption | omega)); (case rn1q7 => (first | assumption | omega)); (case rq2q7 => (first | assumption | omega)); k_whole; intro x'q dx'q t1'q t2'q t3'q t4'q h'q tk'q F'q N'q l1q l2q b1q b2q; (try dsimp only); (try k_sweep); (have l9q : FreshD _ _ := l1q); (k_lt l1q); (k_lt2 l2q)))
  k_with "m:call ref" => ((with_reducible show wpAny _ _ (call (Value.ref 167) [Value.ref _, Value.ref _] _) _ _ _); k_dflt (refine' fq254_subF ?qFq7 ?qKq7 ?qDq7 ?qUq7 ?q1q7 ?q2q7 ?q3q7 ?q4q7 ?q5q7 ?rxq7 ?rdxq7 ?ryq7 ?rdyq7 ?rqq7 ?rn0q7 ?rn1q7 ?rq2q7 ?_; (k_extra "std"); (case rxq7 => k_mem); (case rdxq7 => k_mem); (case ryq7 => k_mem); (case rdyq7 => k_mem); (case rqq7 => (first | assumption | omega)); (case rn0q7 => (first | assumption | omega)); (case rn1q7 => (first | assumption | omega)); (case rq2q7 => (first | assumption | omega)); k_whole; intro x'q dx'q t1'q t2'q t3'q t4'q h'q tk'q F'q N'q l1q l2q b1q b2q; (try dsimp only); (try k_sweep); (have l9q : FreshD _ _ := l1q); (k_lt l1q); (k_lt2 l2q)))
  k_with "m:call ref" => ((with_reducible show wpAny _ _ (call (Value.ref 132) [Value.ref _, Value.ref _] _) _ _ _); k_dflt (refine' fq254_addF ?qFq7 ?qKq7 ?qDq7 ?qUq7 ?q1q7 ?q2q7 ?q3q7 ?q4q7 ?q5q7 ?rxq7 ?rdxq7 ?ryq7 ?rdyq7 ?rqq7 ?rn0q7 ?rn1q7 ?rq2q7 ?_; (k_extra "std"); (case rxq7 => k_mem); (case rdxq7 => k_mem); (case ryq7 => k_mem); (case rdyq7 => k_mem); (case rqq7 => (first | assumption | omega)); (case rn0q7 => (first | assumption | omega)); (case rn1q7 => (first | assumption | omega)); (case rq2q7 => (first | assumption | omega)); k_whole; intro x'q dx'q t1'q t2'q t3'q t4'q h'q tk'q F'q N'q l1q l2q b1q b2q; (try dsimp only); (try k_sweep); (have l9q : FreshD _ _ := l1q); (k_lt l1q); (k_lt2 l2q)))
  k_with "m:exec Assign cons ListComp" => (k_dflt (refine Assign_ListComp_G (by k_asm) (by rfl) (by with_unfolding_all rfl) (by with_unfolding_all rfl) (by decide) (by rfl) (by decide) (by rfl) (by rfl) (by rfl) ?_))
  k_with "m:exec For Name Call cons nil" => ((rename Fr _ _ _ _ => lF'q); (k_dflt (refine' For_GF lF'q ?hhq7 ?k1q7 ?k2q7 ?_; (case hhq7 => exact rfl); (case k1q7 => exact rfl); (case k2q7 => exact rfl); k_whole)))
  k_with "m:subscriptTail Attribute" => (k_here; (with_reducible show wpAny _ _ (subscriptTail (PySem.Expr.Attribute _ _ _) _ (Value.ref _) (Value.int _ _)) _ _ _); k_dflt (refine kba_turn (value' := PySem.Expr.Name (PySem.Str.ofString "_") ⟨0, 0, 0, 0⟩) (fun _ => rfl) ?_))
  k_with "m:exec AugAssign Subscript" => (k_here; k_dflt (refine wpAny_AugAssign_Subscript_any ?_))
  k_with "m:subscriptTail" => first | ((with_reducible show wpAny _ _ (subscriptTail _ _ (Value.ref _) (Value.int _ _)) _ _ _); k_dflt (first | (refine' fql_tup ?FQq7 ?Nq7 ?hmq7 ?hkq7 ?hiq7 ?hzq7 ?hqq7 ?_; (case Nq7 => k_asm); (case hmq7 => k_mem); (case FQq7 => with_reducible assumption); (case hqq7 => with_reducible assumption); (case hkq7 => (first | exact Int.zero_add _ | exact idx2 _ _ | exact idxk _ _ _)); (case hiq7 => omega); (case hzq7 => omega); k_whole; intro a'q d'q n'q t1'q t2'q t3'q t4'q ma'q md'q en'q n0'q n1'q) | (refine' fql_list ?FQq7 ?Nq7 ?hmq7 ?hkq7 ?hiq7 ?hzq7 ?hqq7 ?_; (case Nq7 => k_asm); (case hmq7 => k_mem); (case FQq7 => with_reducible assumption); (case hqq7 => with_reducible assumption); (case hkq7 => (first | exact Int.zero_add _ | exact idx2 _ _ | exact idxk _ _ _)); (case hiq7 => omega); (case hzq7 => omega); k_whole; intro a'q d'q n'q t1'q t2'q t3'q t4'q ma'q md'q en'q n0'q n1'q) | (refine' int_tup ?Iq7 ?Nq7 ?hmq7 ?hkq7 ?hiq7 ?hzq7 ?_; (case Nq7 => k_asm); (case hmq7 => k_mem); (case Iq7 => with_reducible assumption); (case hkq7 => (first | exact Int.zero_add _ | exact idx2 _ _ | exact idxk _ _ _)); (case hiq7 => omega); (case hzq7 => omega); k_whole; intro n'q t'q en'q)))
  k_with "m:getItem ref int" => first | ((with_reducible show wpAny _ _ (getItem (Value.ref _) (Value.int _ _)) _ _ _); k_dflt (refine' fql_get ?FQq7 ?Nq7 ?hmq7 ?hkq7 ?hiq7 ?hzq7 ?hqq7 ?_; (case Nq7 => k_asm); (case hmq7 => k_mem); (case FQq7 => with_reducible assumption); (case hqq7 => with_reducible assumption); (case hkq7 => (first | exact Int.zero_add _ | exact idx2 _ _ | exact idxk _ _ _)); (case hiq7 => omega); (case hzq7 => omega); k_whole; intro a'q d'q n'q t1'q t2'q t3'q t4'q ma'q md'q en'q n0'q n1'q))
  k_with "m:getItem ref" => walk_at "getItem ref int"
  k_with "m:inplaceOp Add ref" => first | ((with_reducible show wpAny _ _ (inplaceOp _ (Value.ref _) (Value.ref _)) _ _ _); k_dflt (refine' ip_binop ?k1q7 ?k2q7 ?k3q7 ?k4q7 ?k5q7 ?kMq7 ?k6q7 ?k7q7 ?k8q7 ?k9q7 ?_; (case k1q7 => k_asm); (case k2q7 => k_asm); (case k3q7 => k_inst); (case k4q7 => k_typeOf); (case k5q7 => k_is); (case kMq7 => rfl); (case k6q7 => k_is); (case k7q7 => k_is); (case k8q7 => k_is); (case k9q7 => k_is); k_whole))
  k_with "m:inplaceOp Sub ref" => first | ((with_reducible show wpAny _ _ (inplaceOp _ (Value.ref _) (Value.ref _)) _ _ _); k_dflt (refine' ip_binop ?k1q7 ?k2q7 ?k3q7 ?k4q7 ?k5q7 ?kMq7 ?k6q7 ?k7q7 ?k8q7 ?k9q7 ?_; (case k1q7 => k_asm); (case k2q7 => k_asm); (case k3q7 => k_inst); (case k4q7 => k_typeOf); (case k5q7 => k_is); (case kMq7 => rfl); (case k6q7 => k_is); (case k7q7 => k_is); (case k8q7 => k_is); (case k9q7 => k_is); k_whole))
  k_with "m:setItem ref" => walk_at "setItem ref int"
  k_with "m:setItem ref int" => first | ((with_reducible show wpAny _ _ (setItem (Value.ref _) (Value.int _ _) (Value.ref _)) _ _ _); (with_reducible rename News _ _ _ _ => N9q); k_dflt (refine' fql_set ?Fq7 N9q ?Pq7 ?neq7 ?hkq7 ?hjq7 ?hzq7 ?_; (case Fq7 => k_asm); (case Pq7 => (repeat (first | with_reducible exact Pull.here | with_reducible apply Pull.there))); (case hkq7 => (first | exact Int.zero_add _ | exact idx2 _ _ | exact idxk _ _ _)); (case hjq7 => (first | omega | (rw [FqL.len (by assumption)]; omega))); (case hzq7 => omega); (case neq7 => ((repeat (refine List.forall_mem_cons.mpr (And.intro (by first | decide | exact Nat.ne_of_gt (by omega)) ?_))); first | with_reducible assumption | exact List.forall_mem_nil _)); k_whole; intro h'q F'q N'q))
  trivial
theorem off2c {I l : Addr} {a c : Obj} {r : List (Addr × Obj)} {x d : Addr} {o1 o2 : Obj} (h : ∀ p ∈ (l, a) :: r, p.1 ≠ I) (hx : x ≠ I) (hd : d ≠ I) : ∀ p ∈ (l, c) :: (x, o1) :: (d, o2) :: r, p.1 ≠ I := by
  intro p hp
  rcases List.mem_cons.mp hp with rfl | hp
  · exact h (l, a) (.head _)
  · rcases List.mem_cons.mp hp with rfl | hp
    · exact hx
    · rcases List.mem_cons.mp hp with rfl | hp
      · exact hd
      · exact h p (.tail _ hp)
theorem lay82 : True := by
  k_with "m.k_mem" => first | ((repeat (first | with_reducible assumption | with_reducible exact List.mem_cons_self | apply List.mem_cons_of_mem | (refine List.mem_append_left _ ?_; with_reducible assumption) | apply List.mem_append_right)); done)
  k_with "m:exec While Compare cons nil" => refine StopAt.go ?_
  k_with "m:call builtin:list.pop" => ((with_reducible rename News _ _ _ _ => N9q); k_dflt (refine' fql_pop ?FQq7 ?hqq7 ?Fq7 N9q ?Pq7 ?neq7 ?h1q7 ?hzq7 ?_; (case Fq7 => k_asm); (case Pq7 => (repeat (first | with_reducible exact Pull.here | with_reducible apply Pull.there))); (case FQq7 => with_reducible assumption); (case hqq7 => with_reducible assumption); (case h1q7 => omega); (case hzq7 => omega); (case neq7 => ((repeat (refine List.forall_mem_cons.mpr (And.intro (by first | decide | exact Nat.ne_of_gt (by omega)) ?_))); first | with_reducible assumption | exact List.forall_mem_nil _)); k_whole; intro a'q d'q n'q t1'q t2'q t3'q t4'q h'q ma'q md'q en'q n0'q n1'q FQ'q q'q F'q N'q))
  trivial
theorem idxk (d k i : Nat) : (((d + (k + 1) : Nat) : Int) - (d : Int) - 1) + (0 + (i : Int)) = ((k + i : Nat) : Int) := by omega
theorem news_top {h₀ h : Heap} {L : Addr} {b p1 p2 : Addr × Obj} {objs led : List (Addr × Obj)} (N : News h₀ L h (b :: (objs ++ led))) (m1 : p1 ∈ objs) (m2 : p2 ∈ objs) : News h₀ L h (b :: (objs ++ p1 :: p2 :: led)) := fun p hp => by
  apply N p
  simp only [List.mem_cons, List.mem_append] at hp ⊢
  rcases hp with h | h | h | h | h
  · exact .inl h
  · exact .inr (.inl h)
  · exact .inr (.inl (h ▸ m1))
  · exact .inr (.inl (h ▸ m2))
  · exact .inr (.inr h)
theorem top_names {P : Params} {q : Int} {a d : Addr} {n : Int} {t1 t2 t3 t4 : Tok} {objs : List (Addr × Obj)} (_m1 : (a, instObj 254 d) ∈ objs) (_m2 : (d, fqD P q n t1 t2 t3 t4) ∈ objs) :
    ∃ a' d' n' s1 s2 s3 s4, a' = a ∧ d' = d ∧ n' = n ∧ s1 = t1 ∧ s2 = t2 ∧ s3 = t3 ∧ s4 = t4 := ⟨_, _, _, _, _, _, _, rfl, rfl, rfl, rfl, rfl, rfl, rfl⟩
theorem coef_of {P : Params} {q : Int} {objs news : List (Addr × Obj)} {vs : List Value} {ns : List Int} (FQ : FqL P q objs vs ns) (sub : ∀ p ∈ objs, p ∈ news) : ∀ (i : Nat) v n, vs[i]? = some v → ns[i]? = some n → Coef P q news v n := by
  intro i v n hv hn
  obtain ⟨a, d, t1, t2, t3, t4, h1, h2, h3⟩ := FQ.2 i n hn
  rw [hv] at h1
  exact .inr ⟨a, d, t1, t2, t3, t4, Option.some.inj h1, sub _ h2, sub _ h3⟩
theorem rsz1 (n : Nat) : Builtin.Range.rangeSize 0 (n : Int) 1 = (n : Int) := by
  rw [rangeSize_nat]; omega
theorem rsz2 {n : Nat} (h : 1 ≤ n) : Builtin.Range.rangeSize 0 ((n : Int) * 2 - 1) 1 = ((2 * n - 1 : Nat) : Int) := by
  rw [rangeSize_nat]; omega
theorem lay83 : True := by
  k_with "m:call ref" => ((with_reducible show wpAny _ _ (call (Value.ref 279) [Value.ref _, Value.ref _] _) _ _ _); refine StopAt.go ?_)
  trivial
theorem mul_fin {h₀ h : Heap} {L T : Addr} {t : Obj} {b : Addr × Obj} {o1 o2 news : List (Addr × Obj)} (N : News h₀ L h (o1 ++ (T, t) :: b :: (o2 ++ news))) : News h₀ L h ((o1 ++ b :: o2) ++ (T, t) :: news) := fun p hp => by
  apply N p
  simp only [List.mem_cons, List.mem_append] at hp ⊢
  rcases hp with (h | h | h) | h | h
  · exact .inl h
  · exact .inr (.inr (.inl h))
  · exact .inr (.inr (.inr (.inl h)))
  · exact .inr (.inl h)
  · exact .inr (.inr (.inr (.inr h)))
theorem redu_next {q : Int} {rows bs Bf : List Int} {d k : Nat} {tn : Int} (e : redu q rows d (k + 1) bs = Bf) (hl : bs.length = d + (k + 1)) (en : tn = bs.getD (bs.length - 1) 0) : redu q rows d k (sIn q rows tn k bs.dropLast d) = Bf := by
  rw [← e]
  show _ = redu q rows d k (sIn q rows (bs.getD (bs.length - 1) 0) (bs.length - d - 1) bs.dropLast d)
  rw [← en, hl, show d + (k + 1) - d - 1 = k by omega]
theorem gen_led {h₀ h : Heap} {L : Addr} {l : List (Addr × Obj)} (N : News h₀ L h l) : ∃ l', l' = l ∧ News h₀ L h l' := ⟨_, rfl, N⟩
theorem drop_2nd {h₀ h : Heap} {L : Addr} {a b : Addr × Obj} {r : List (Addr × Obj)} (N : News h₀ L h (a :: b :: r)) : News h₀ L h (a :: r) := fun p hp => by
  rcases List.mem_cons.mp hp with rfl | hp
  · exact N _ (.head _)
  · exact N _ (.tail _ (.tail _ hp))

-- piece mulc
theorem sub_app {α : Type} {l1 l2 all : List α} (h1 : ∀ p ∈ l1, p ∈ all) (h2 : ∀ p ∈ l2, p ∈ all) : ∀ p ∈ l1 ++ l2, p ∈ all := fun p hp => (List.mem_append.mp hp).elim (h1 p) (h2 p)
section
variable {w : World} {p : Program} {loose : List Str} {mean : ExcName → Option Value} {mg mb : Str → Option Value} {dp un : Nat} {gd : Option (List Code)} {A₀ : Around} {env : Env} {outer : List Env} {base h₀ : Heap} {L : Addr} {m : Str → Option Value} {s : Shared} {Q E : Value → Shared → Prop} {news : List (Addr × Obj)}
set_option maxRecDepth 100000 in
set_option maxHeartbeats 8000000 in
theorem mul_c {x y : Addr} {xs ys rows rowsY : List Int} {d : Nat} {q : Int} {ps : Array Value}
    (hf : env.frame = some L) (hke : env.scope.kind = .function) (hdp : dp ≤ 800) (hun : un ≤ 8000)
    (B : Below A₀ base outer h₀) (F : Fr h₀ L s.heap m) (X : (hd.heap_1 w.params).In h₀) (N : News h₀ L s.heap ((267, tabObj ps) :: news)) (T : Top p loose mean mg mb h₀)
    (ht : TabX gpos ps) (C : CodeW base 271 267) (hne : ∀ p ∈ news, p.1 ≠ 267)
    (hX : FqpAt w.params q x xs rows news) (hY : FqpAt w.params q y ys rowsY news) (hd1 : 1 ≤ d) (hd3 : d ≤ 3) (hr : rows.length = d) (hxs : xs.length = d) (hys : ys.length = d) (hqx : InQ q xs) (hqy : InQ q ys) (hq : 0 < q) (hq2 : q ≤ 4000000000000000000)
    (hret : ∀ (x' : Addr) (objs : List (Addr × Obj)) (ps' : Array Value) (h' : Heap) (tk' : Nat) (gn : Array GenState), TabX gpos ps' → FqpAt w.params q x' (mulL q rows d xs ys) rows (objs ++ news) → (∀ p ∈ objs, p.1 ≠ 267) → (mulL q rows d xs ys).length = d → InQ q (mulL q rows d xs ys) → Fr h₀ L h' m → News h₀ L h' (objs ++ (267, tabObj ps') :: news) → (AllBare s.gens → AllBare gn) → Q (.ref x') { s with heap := h', toks := tk', gens := gn }) :
    wpAny (model PR w) (ar dp un gd env outer) (call (.ref 301) [.ref x, .ref y]) Q E s := by
  obtain ⟨dx, tc, tm, vs, ms, dg, a1, a2, a3, a4, a5, a6, x1, x2, x3, x4, FX, hms, hdg⟩ := hX
  obtain ⟨dy, tc', tm', vs', ms', dg', b1, b2, b3, b4, b5, b6, y1, y2, y3, y4, FY, hms', hdg'⟩ := hY
  obtain rfl : dg = (d : Int) := by rw [hdg, hr]
  refine wpAny_call ?_
  (k_dflt (refine' code_defCB (fun y => none) (fun z => if z = Str.ofString "other" then some (.ref y) else if z = Str.ofString "self" then some (.ref x) else none) ?k1 ?k2 ?k3 ?k4 ?k5 ?kA ?kF ?kK ?k6 ?k7 ?k8 ?kP ?k9 ?kB ?kD ?kL ?kC ?_ ?c2 ?c3 ?c4; (case kA => exact rfl); (case kF => first | assumption | exact rfl); (case kK => first | assumption | exact rfl); (case k1 => k_asm); (case k2 => k_asm); (case k3 => k_asm); (case k4 => k_asm); (case k5 => k_asm); (case k6 => k_is); (case k7 => k_is); (case k8 => k_room); (case kP => first | exact BindsP.cons BindsP.nil | exact BindsP.cons (BindsP.cons BindsP.nil) | exact BindsP.cons (BindsP.cons (BindsP.cons BindsP.nil)) | exact BindsP.cons (BindsP.cons (BindsP.cons (BindsP.cons BindsP.nil)))); (case k9 => first | exact BindsTo.of_eq rfl | exact binds_K (by k_in) rfl (by k_is) rfl rfl rfl | fail "k_enter: no rule for these arguments"); (case kB => exact rfl); (case kD => decide +kernel); (case kL => (intro _; funext y; exact rfl)); (case kC => (intro _; funext y; exact rfl)); (case c2 => exact rfl); (case c3 => exact rfl); (case c4 => exact rfl); k_whole; intro g' L' h' tk' cells' FG' F' N' Y' B' X' T' l1; (try k_lt l1); k_cells Y'; (try simp only [List.cons_append, List.nil_append] at N'); (try dsimp only); (try k_lift B'); (first | refine let q' : Flow → Shared → Prop := _; let e' : Value → Shared → Prop := _; let o' : Around := _; let v' : Env := _; let a' : Around := Around.deeper o' v'; let s' : Shared := _; (?_ : wpAny _ a' (execs _ v') q' e' s') | skip)))
  clear N
  k_steps
  with_reducible rename News _ _ _ _ => N9
  have N7 := Pull.news (a := 267) (o := tabObj ps) N9 (by repeat (first | with_reducible exact Pull.here | with_reducible apply Pull.there))
  have N8 := drop_2nd N7
  clear N9 N7
  obtain ⟨led, hled, N8⟩ := gen_led N8
  have mT : (267, tabObj ps) ∈ led := by rw [hled]; exact .head _
  have mo := (show _ ∈ led by rw [hled]; exact .tail _ (.head _))
  have ms9 := (show _ ∈ led by rw [hled]; exact .tail _ (.tail _ (.head _)))
  have up9 : ∀ {p}, p ∈ news → p ∈ led := fun h => by rw [hled]; exact .tail _ (.tail _ (.tail _ h))
  have x1' := up9 x1
  have x2' := up9 x2
  have x3' := up9 x3
  have x4' := up9 x4
  have y1' := up9 y1
  have y2' := up9 y2
  have y3' := up9 y3
  have y4' := up9 y4
  have FX' := FX.mono (fun _ h => up9 h)
  have FY' := FY.mono (fun _ h => up9 h)
  clear x3 y1 y2 y3 y4 FX FY
  refine' CompSrcG.rangeA (n := 2 * d - 1) (KC w.params q led) rfl ?F N8 ?hr ?hs ?hn ?hz (KC.zero) ?tu ?dn
  case F => k_asm
  case hr => assumption
  case hs => exact small_one (by omega) (by omega) (by omega) (by omega)
  case hn => exact rsz2 hd1
  case hz => (rw [sizeLine_eq]; omega)
  case tu =>
    rintro I C9 D oI oC i v m₂ zs nw h tk E' hi ⟨t, rfl⟩ ⟨objs, rfl, FQ, hz⟩ hl hC hx off ne F N
    clear hret N8
    k_steps
    with_reducible rename FreshD _ _ => l9
    have l267 : @LT.lt Nat _ 267 _ := l9 (267, tabObj ps) (by k_mem)
    refine' TurnEnd.intro (nw := (((_, _) :: (_, _) :: objs) ++ led)) ?F ?N ?sub ?off True.intro (KC.next FQ hz ?h1 ?h2 ?h3)
    case F => k_asm
    case N => k_asm
    case sub =>
      repeat' (first | (refine sub_app ?_ ?_) | (refine List.forall_mem_cons.mpr (And.intro (by k_mem) ?_)) | (intro p9 h9; k_mem))
    case off =>
      exact List.forall_mem_cons.mpr ⟨⟨Nat.ne_of_gt (by omega), Nat.ne_of_gt (by omega), Nat.ne_of_gt (by omega)⟩, List.forall_mem_cons.mpr ⟨⟨Nat.ne_of_gt (by omega), Nat.ne_of_gt (by omega), Nat.ne_of_gt (by omega)⟩, off⟩⟩
    case h1 => exact Nat.ne_of_gt (by omega)
    case h2 => exact Nat.ne_of_gt (by omega)
    case h3 => exact Int.zero_emod _
  case dn =>
    rintro bl zs nw h tk hl ⟨objs, rfl, FQ, hz⟩ off F N
    k_steps
    have hbl : ∀ p ∈ led, p.1 ≠ bl := fun p hp => off p (List.mem_append_right _ hp)
    refine' ForG.ofS (n := d) ["j"] (KM w.params q bl led [267, bl] _ (2 * d - 1) (mOut q xs ys d (List.replicate (2 * d - 1) 0))) ?hr ?hs ?hn ?F ?N (KM.zero FQ (inQ_zero hq _) List.length_replicate ?z0) ?turn ?done
    case hr => assumption
    case hs => exact small_one (by omega) (by omega) (by omega) (by omega)
    case hn => exact rsz1 d
    case F => k_asm
    case N => k_asm
    case z0 => exact fun p hp => List.forall_mem_cons.mpr ⟨hz p hp, List.forall_mem_cons.mpr ⟨off p (List.mem_append_left _ hp), List.forall_mem_nil _⟩⟩
    case turn =>
      rintro I i t u nw h tk gn hi hI ⟨vs1, cap, objs1, rfl, FQ1, q1, len1, z1, rfl⟩ hoff FF NN
      clear hret N8 hled
      have hIb : @LT.lt Nat _ bl I := hI _ (.head _)
      k_steps
      have NN2 := news_in ‹News _ _ _ ((I, _) :: _)›
      refine' ForG.of (n := d) (KM w.params q bl ((I, itR (0 + ((i + 1 : Nat) : Int)) (((d : Nat) : Int) - ((i + 1 : Nat) : Int))) :: led) [267, bl, I] _ (2 * d - 1) (mIn q xs ys (mOut q xs ys d (List.replicate (2 * d - 1) 0) i) i)) ?hr2 ?hs2 ?hn2 ?F2 ?N2 (KM.zero FQ1 q1 len1 ?z02) ?turn2 ?done2
      case hr2 => assumption
      case hs2 => exact small_one (by omega) (by omega) (by omega) (by omega)
      case hn2 => exact rsz1 d
      case F2 => k_asm
      case N2 => k_asm
      case z02 =>
        intro p hp
        have h9 := z1 p hp
        exact List.forall_mem_cons.mpr ⟨h9 _ (.head _), List.forall_mem_cons.mpr ⟨h9 _ (.tail _ (.head _)), List.forall_mem_cons.mpr ⟨hoff p (.tail _ (List.mem_append_left _ hp)), List.forall_mem_nil _⟩⟩⟩
      case turn2 =>
        rintro I2 j t2 nw2 h2 tk2 gn2 hj hI2 ⟨vs2, cap2, objs2, rfl, FQ2, q2, len2, z2, rfl⟩ hoff2 FF2 NN3
        have hIb2 : @LT.lt Nat _ bl I2 := hI2 _ (.head _)
        have hob : ∀ p ∈ objs2 ++ (I, itR (0 + ((i + 1 : Nat) : Int)) (((d : Nat) : Int) - ((i + 1 : Nat) : Int))) :: led, p.1 ≠ bl := by
          intro p hp
          rcases List.mem_append.mp hp with hp | hp
          · exact z2 p hp _ (.tail _ (.head _))
          · rcases List.mem_cons.mp hp with rfl | hp
            · exact Ne.symm (hoff _ (.head _))
            · exact hbl p hp
        k_steps
        with_reducible rename FreshD _ _ => l9
        have l267 : @LT.lt Nat _ 267 _ := l9 (267, tabObj ps) (by k_mem)
        have lI : @LT.lt Nat _ I _ := l9 (I, itR (0 + ((i + 1 : Nat) : Int)) (((d : Nat) : Int) - ((i + 1 : Nat) : Int))) (by k_mem)
        refine' ForGEnd.intro (nw := (bl, W.listOf (vs2.set (i + j) (.ref _)).toArray cap2) :: (((_, instObj 254 _) :: (_, fqD _ _ _ _ _ _ _) :: objs2) ++ ((I, itR (0 + ((i + 1 : Nat) : Int)) (((d : Nat) : Int) - ((i + 1 : Nat) : Int))) :: led))) ?F9 ?N9 ?sub9 (off2c hoff2 ?ox ?od) ?jj
        case F9 => k_asm
        case N9 => k_asm
        case sub9 =>
          repeat' (first | (refine sub_app ?_ ?_) | (refine List.forall_mem_cons.mpr (And.intro (by k_mem) ?_)) | (intro p9 h9; k_mem))
        case ox => exact Nat.ne_of_gt (by omega)
        case od => exact Nat.ne_of_gt (by omega)
        case jj =>
          refine' And.intro ?same (KM.next FQ2 q2 len2 z2 ?na ?nd ?e9 ?n0 ?n1)
          case same =>
            intro z h1
            exact if_neg h1
          case na => exact List.forall_mem_cons.mpr ⟨Nat.ne_of_gt (by omega), List.forall_mem_cons.mpr ⟨Nat.ne_of_gt (by omega), List.forall_mem_cons.mpr ⟨Nat.ne_of_gt (by omega), List.forall_mem_nil _⟩⟩⟩
          case nd => exact List.forall_mem_cons.mpr ⟨Nat.ne_of_gt (by omega), List.forall_mem_cons.mpr ⟨Nat.ne_of_gt (by omega), List.forall_mem_cons.mpr ⟨Nat.ne_of_gt (by omega), List.forall_mem_nil _⟩⟩⟩
          case e9 => subst_vars; rfl
          case n0 => assumption
          case n1 => assumption
      case done2 =>
        rintro u2 h3 tk3 gn3 nw3 ⟨vs3, cap3, objs3, rfl, FQ3, q3, len3, z3, rfl⟩ FF3 NN4
        k_steps
        refine' ForGEnd.intro (nw := (bl, W.listOf vs3.toArray cap3) :: (objs3 ++ led)) ?F9 ?N9 ?sub9 ?off9 ?jj
        case F9 => k_asm
        case N9 => k_asm
        case sub9 =>
          repeat' (first | (refine sub_app ?_ ?_) | (refine List.forall_mem_cons.mpr (And.intro (by k_mem) ?_)) | (intro p9 h9; k_mem))
        case off9 =>
          refine List.forall_mem_cons.mpr ⟨hoff (bl, W.listOf vs1.toArray cap) (.head _), fun p hp => ?_⟩
          rcases List.mem_append.mp hp with hp | hp
          · exact z3 p hp _ (.tail _ (.tail _ (.head _)))
          · exact hoff p (.tail _ (List.mem_append_right _ hp))
        case jj =>
          refine' And.intro ?same ⟨vs3, cap3, objs3, rfl, FQ3, q3, len3, ?z9, rfl⟩
          case z9 => exact fun p hp => List.forall_mem_cons.mpr ⟨z3 p hp _ (.head _), List.forall_mem_cons.mpr ⟨z3 p hp _ (.tail _ (.head _)), List.forall_mem_nil _⟩⟩
          case same =>
            intro z h1 h2
            have h4 : z ≠ Str.ofString "j" := by rintro rfl; exact absurd h2 (by decide)
            refine (if_neg h4).trans ?_
            refine (if_neg h1).trans ?_
            exact if_neg (by rw [h2]; decide)
    case done =>
      rintro u h tk gn nw ⟨vs1, cap, objs1, rfl, FQ1, q1, len1, z1, rfl⟩ FF NN
      obtain ⟨B1, hB1⟩ : ∃ B, B = mOut q xs ys d (List.replicate (2 * d - 1) 0) d := ⟨_, rfl⟩
      rw [← hB1] at FQ1 q1 len1
      have hl1 : vs1.length = (2 * d - 1) := by rw [FQ1.1, len1]
      have hob1 : ∀ p ∈ objs1 ++ led, p.1 ≠ bl := by
        intro p hp
        rcases List.mem_append.mp hp with hp | hp
        · exact z1 p hp _ (.tail _ (.head _))
        · exact hbl p hp
      k_steps
      delta StopAt
      with_reducible rename News _ _ _ _ => N9
      refine' While_inv (KW w.params q bl led [267, bl] d rows (redu q rows d (d - 1) B1) _) ?F N9 (KW.zero FQ1 q1 (by rw [len1]; omega) (by omega) rfl z1) ?turn3
      case F => k_asm
      case turn3 =>
        rintro k m3 nw3 h3 tk3 FF3 NN3 ⟨hm3, vs3, cap3, objs3, bs3, rfl, FQ3, q3, len3, hk3, e3, z3⟩
        have em := KW.map hm3
        rw [em] at FF3
        have hl3 : vs3.length = d + k := by rw [FQ3.1, len3]
        have hob1 : ∀ p ∈ objs3 ++ led, p.1 ≠ bl := by
          intro p hp
          rcases List.mem_append.mp hp with hp | hp
          · exact z3 p hp _ (.tail _ (.head _))
          · exact hbl p hp
        cases k with
        | zero =>
          k_steps
          delta StopAt
          with_reducible rename News _ _ _ _ => N9
          subst hled
          have lb : (267 : Nat) ≠ bl := hbl _ (.head _)
          refine' fqp_made (ps := ps) (news := (bl, W.listOf vs3.toArray cap3) :: (objs3 ++ news)) rfl rfl ?qD ?qU ?q1 ?q2 ?q3 (cb_drop N9 ?sub) ?q5 ht C ?ne (.tail _ (List.mem_append_right _ x1)) (.tail _ (List.mem_append_right _ x2)) (.tail _ (List.mem_append_right _ x4)) (.head _) (.inl ⟨_, rfl⟩) (coef_of FQ3 fun p hp => .tail _ (List.mem_append_left _ hp)) hms hl3 (hms.length.trans hr) len3 (by omega) hq ?_
          case qD => ((try simp +zetaDelta only [depth_mark, depth_under_make, depth_under_kw, depth_in1, depth_deeper]); (try dsimp only); omega)
          case qU => ((try simp +zetaDelta only [units_under_make, units_in1, units_deeper, Around.mark_units]); (try dsimp only); omega)
          case q1 => k_asm
          case q2 => k_asm
          case q3 => k_asm
          case q5 => k_asm
          case sub =>
            intro p9 hp9
            simp only [List.mem_append, List.mem_cons] at hp9 ⊢
            rcases hp9 with h9 | h9 | h9 | h9
            · exact .inr (.inr (.inl h9))
            · exact .inl h9
            · exact .inr (.inl h9)
            · exact .inr (.inr (.inr (.inr (.inr h9))))
          case ne =>
            refine List.forall_mem_cons.mpr ⟨Ne.symm lb, fun p hp => ?_⟩
            rcases List.mem_append.mp hp with hp | hp
            · exact z3 p hp _ (.head _)
            · exact hne p hp
          k_whole
          intro x' objs' ps' h' tk' gn' ht' FA' ne' F' N' gb'
          clear N9 em
          have e9 : bs3 = mulL q rows d xs ys := by
            unfold mulL
            rw [← hB1]
            exact e3
          have FA9 : FqpAt w.params q x' (mulL q rows d xs ys) rows ((objs' ++ (bl, W.listOf vs3.toArray cap3) :: objs3) ++ news) := by
            rw [List.append_assoc, ← e9]
            exact FA'
          have q9 : InQ q (mulL q rows d xs ys) := e9 ▸ q3
          have l9 : (mulL q rows d xs ys).length = d := by rw [← e9]; exact len3
          have ne9 : ∀ p ∈ objs' ++ (bl, W.listOf vs3.toArray cap3) :: objs3, p.1 ≠ 267 := by
            intro p hp
            rcases List.mem_append.mp hp with hp | hp
            · exact ne' p hp
            · rcases List.mem_cons.mp hp with rfl | hp
              · exact Ne.symm lb
              · exact z3 p hp _ (.head _)
          k_steps
          exact hret _ _ _ _ _ _ ht' FA9 ne9 l9 q9 (by k_asm) (mul_fin (by k_asm)) gb'
        | succ k =>
          clear hret hled N8
          k_steps
          with_reducible rename ((_, instObj 254 _) ∈ objs3) => mt1
          with_reducible rename ((_, fqD _ _ _ _ _ _ _) ∈ objs3) => mt2
          with_reducible rename (_ = List.getD bs3 (List.length _ - 1) 0) => en
          obtain ⟨ta, td, tn, s1, s2, s3, s4, e1, e2, e4, e5, e6, e7, e8⟩ := top_names mt1 mt2
          subst e1 e2 e4 e5 e6 e7 e8
          with_reducible rename FqL _ _ objs3 (List.dropLast _) _ => FQd
          with_reducible rename InQ q (List.dropLast _) => qd
          with_reducible rename News _ _ _ _ => N9
          refine' ForG.of (n := d) (KM w.params q bl ((ta, instObj 254 td) :: (td, fqD w.params q tn s1 s2 s3 s4) :: led) [267, bl] _ (d + k) (sIn q rows tn k bs3.dropLast)) ?hr4 ?hs4 ?hn4 ?F4 (news_top (fun p hp => N9 p (.tail _ hp)) mt1 mt2) (KM.zero FQd qd ?ld z3) ?turn4 ?done4
          case hr4 => assumption
          case hs4 => exact small_one (by omega) (by omega) (by omega) (by omega)
          case hn4 => exact rsz1 d
          case F4 => k_asm
          case ld => show bs3.dropLast.length = d + k; rw [List.length_dropLast, len3]; omega
          case turn4 =>
            rintro I3 i t3 nw4 h4 tk4 gn4 hi4 hI4 ⟨vs4, cap4, objs4, rfl, FQ4, q4, len4, z4, rfl⟩ hoff4 FF4 NN4
            have hIb4 : @LT.lt Nat _ bl I3 := hI4 _ (.head _)
            have hob4 : ∀ p ∈ objs4 ++ (ta, instObj 254 td) :: (td, fqD w.params q tn s1 s2 s3 s4) :: led, p.1 ≠ bl := by
              intro p hp
              rcases List.mem_append.mp hp with hp | hp
              · exact z4 p hp _ (.tail _ (.head _))
              · rcases List.mem_cons.mp hp with rfl | hp
                · exact z3 _ mt1 _ (.tail _ (.head _))
                · rcases List.mem_cons.mp hp with rfl | hp
                  · exact z3 _ mt2 _ (.tail _ (.head _))
                  · exact hbl p hp
            have n0 : 0 ≤ tn := (by with_reducible assumption)
            k_steps
            with_reducible rename FreshD _ _ => l9
            have l267 : @LT.lt Nat _ 267 _ := l9 (267, tabObj ps) (by k_mem)
            refine' ForGEnd.intro (nw := (bl, W.listOf (vs4.set (k + i) (.ref _)).toArray cap4) :: (((_, instObj 254 _) :: (_, fqD _ _ _ _ _ _ _) :: objs4) ++ ((ta, instObj 254 td) :: (td, fqD w.params q tn s1 s2 s3 s4) :: led))) ?F9 ?N9 ?sub9 (off2c hoff4 ?ox ?od) ?jj
            case F9 => k_asm
            case N9 => k_asm
            case sub9 =>
              repeat' (first | (refine sub_app ?_ ?_) | (refine List.forall_mem_cons.mpr (And.intro (by k_mem) ?_)) | (intro p9 h9; k_mem))
            case ox => exact Nat.ne_of_gt (by omega)
            case od => exact Nat.ne_of_gt (by omega)
            case jj =>
              refine' And.intro ?same (KM.next FQ4 q4 len4 z4 ?na ?nd ?e9 ?n0 ?n1)
              case same =>
                intro z h1
                exact if_neg h1
              case na => exact List.forall_mem_cons.mpr ⟨Nat.ne_of_gt (by omega), List.forall_mem_cons.mpr ⟨Nat.ne_of_gt (by omega), List.forall_mem_nil _⟩⟩
              case nd => exact List.forall_mem_cons.mpr ⟨Nat.ne_of_gt (by omega), List.forall_mem_cons.mpr ⟨Nat.ne_of_gt (by omega), List.forall_mem_nil _⟩⟩
              case e9 => clear en; subst_vars; (try rw [show (0 + (i : Int)).toNat = i by omega]); rfl
              case n0 => assumption
              case n1 => assumption
          case done4 =>
            rintro u4 h5 tk5 gn5 nw5 ⟨vs5, cap5, objs5, rfl, FQ5, q5, len5, z5, rfl⟩ FF5 NN5
            k_steps
            refine' WhileStep.intro ?F ?N (Nat.lt_succ_self k) ⟨?same, vs5, cap5, objs5, _, rfl, FQ5, q5, len5, by omega, redu_next e3 len3 en, z5⟩
            case F => k_asm
            case N =>
              refine cb_drop NN5 fun p9 hp9 => ?_
              simp only [List.mem_append, List.mem_cons] at hp9 ⊢
              rcases hp9 with h9 | h9 | h9
              · exact .inl h9
              · exact .inr (.inl h9)
              · exact .inr (.inr (.inr (.inr h9)))
            case same =>
              intro z h
              have w1 : z ≠ Str.ofString "i" := by rintro rfl; exact absurd h (by decide)
              have w2 : z ≠ Str.ofString "top" := by rintro rfl; exact absurd h (by decide)
              have w3 : z ≠ Str.ofString "exp" := by rintro rfl; exact absurd h (by decide)
              first | (simp only [if_neg w1, if_neg w2, if_neg w3, h, Bool.false_eq_true, if_false]; done) | (simp +zetaDelta only [upd, if_neg w1, if_neg w2, if_neg w3, h, Bool.false_eq_true, if_false]; done)
end

-- piece pow
noncomputable def oneL (q : Int) (d : Nat) : List Int := (1 % q) :: List.replicate (d - 1) 0
noncomputable def powL (q : Int) (rows : List Int) (d : Nat) : Nat → List Int → Int → List Int
  | 0, xs, _ => xs
  | f + 1, xs, n => if n = 0 then oneL q d else if n = 1 then xs else if n.fmod 2 = 0 then powL q rows d f (mulL q rows d xs xs) (n.fdiv 2) else mulL q rows d (powL q rows d f (mulL q rows d xs xs) (n.fdiv 2)) xs
noncomputable def PowC (w : World) (q : Int) (rows : List Int) (d : Nat) (f : Nat) : Prop :=
  ∀ {p : Program} {loose : List Str} {mean : ExcName → Option Value} {mg mb : Str → Option Value} {dp un : Nat} {gd : Option (List Code)} {A₀ : Around} {env : Env} {outer : List Env} {base h₀ : Heap} {L : Addr} {m : Str → Option Value} {s : Shared} {Q E : Value → Shared → Prop} {news : List (Addr × Obj)} {x : Addr} {xs : List Int} {n : Int} {tn : Tok} {ps : Array Value}
    (_ : 0 < f) (_ : env.frame = some L) (_ : env.scope.kind = .function) (_ : dp + 10 * f ≤ 790) (_ : un + 100 * f ≤ 7900)
    (_ : Below A₀ base outer h₀) (_ : Fr h₀ L s.heap m) (_ : (hd.heap_1 w.params).In h₀) (_ : News h₀ L s.heap ((267, tabObj ps) :: news)) (_ : Top p loose mean mg mb h₀)
    (_ : TabX gpos ps) (_ : CodeW base 271 267) (_ : ∀ p ∈ news, p.1 ≠ 267) (_ : FqpAt w.params q x xs rows news) (_ : xs.length = d) (_ : InQ q xs) (_ : 0 ≤ n) (_ : n < 2 ^ f) (_ : n < 1000000)
    (_ : ∀ (x' : Addr) (objs : List (Addr × Obj)) (ps' : Array Value) (h' : Heap) (tk' : Nat) (gn : Array GenState), TabX gpos ps' → FqpAt w.params q x' (powL q rows d f xs n) rows (objs ++ news) → (∀ p ∈ objs, p.1 ≠ 267) → (powL q rows d f xs n).length = d → InQ q (powL q rows d f xs n) → Fr h₀ L h' m → News h₀ L h' (objs ++ (267, tabObj ps') :: news) → (AllBare s.gens → AllBare gn) → Q (.ref x') { s with heap := h', toks := tk', gens := gn }),
    wpAny (model PR w) (ar dp un gd env outer) (call (.ref 320) [.ref x, .int n tn]) Q E s
theorem lay84 : True := by
  k_with "m:call ref" => ((with_reducible show wpAny _ _ (call (Value.ref 301) [Value.ref _, Value.ref _] _) _ _ _); refine StopAt.go ?_)
  k_with "m:call ref" => ((with_reducible show wpAny _ _ (call (Value.ref 320) [Value.ref _, Value.int _ _] _) _ _ _); refine StopAt.go ?_)
  trivial
theorem coef_ints {P : Params} {q : Int} {news : List (Addr × Obj)} {vs : List Value} {ks : List Int} (I : IntsAre vs ks) : ∀ {ns : List Int}, ns = ks.map (· % q) → ∀ (i : Nat) v n, vs[i]? = some v → ns[i]? = some n → Coef P q news v n := by
  intro ns e i v n hv hn
  subst e
  have hi : i < ks.length := by
    rcases Nat.lt_or_ge i ks.length with h | h
    · exact h
    · rw [List.getElem?_eq_none (by simpa using h)] at hn; cases hn
  obtain ⟨t9, e⟩ := ints_get I hi
  rw [hv] at e
  refine .inl ⟨_, t9, Option.some.inj e, ?_⟩
  have : (ks.map (· % q))[i]? = some (ks.getD i 0 % q) := by simp [hi]
  rw [this] at hn
  exact (Option.some.inj hn).symm
theorem one_eq {q : Int} {d : Nat} (hd : 1 ≤ d) : oneL q d = ([1] ++ (List.replicate ((d : Int) - 1).toNat [(0 : Int)]).flatten).map (· % q) := by
  have e : ((d : Int) - 1).toNat = d - 1 := by omega
  rw [e]
  unfold oneL
  have : ∀ k, (List.replicate k [(0 : Int)]).flatten.map (· % q) = List.replicate k 0 := by
    intro k
    induction k with
    | zero => rfl
    | succ k ih => rw [List.replicate_succ, List.flatten_cons, List.map_append, ih, List.replicate_succ]; simp
  rw [List.map_append, this]
  rfl
theorem oneL_len {q : Int} {d : Nat} (hd : 1 ≤ d) : (oneL q d).length = d := by
  unfold oneL
  simp; omega
theorem oneL_in {q : Int} {d : Nat} (hq : 1 < q) : InQ q (oneL q d) := by
  intro v hv
  unfold oneL at hv
  rcases List.mem_cons.mp hv with rfl | hv
  · exact ⟨Int.emod_nonneg _ (by omega), Int.emod_lt_of_pos _ (by omega)⟩
  · rw [(List.mem_replicate.mp hv).2]; omega
theorem FqpAt.mono {P : Params} {q : Int} {x : Addr} {ns rows : List Int} {o1 o2 : List (Addr × Obj)} (h : FqpAt P q x ns rows o1) (k : ∀ p ∈ o1, p ∈ o2) : FqpAt P q x ns rows o2 := by
  obtain ⟨dx, tc, tm, vs, ms, dg, a1, a2, a3, a4, a5, a6, x1, x2, x3, x4, FX, hms, hdg⟩ := h
  exact ⟨dx, tc, tm, vs, ms, dg, a1, a2, a3, a4, a5, a6, k _ x1, k _ x2, k _ x3, k _ x4, FX.mono k, hms, hdg⟩
theorem made_fin {P : Params} {q : Int} {x : Addr} {ns rows : List Int} {h₀ h : Heap} {L : Addr} {t : Obj} {o1 news : List (Addr × Obj)} (mid : List (Addr × Obj)) (FA : FqpAt P q x ns rows (o1 ++ (mid ++ news))) (N : News h₀ L h (o1 ++ (267, t) :: (mid ++ news))) (ne : ∀ p ∈ o1, p.1 ≠ 267) (nm : ∀ p ∈ mid, p.1 ≠ 267) :
    ∃ OB, FqpAt P q x ns rows (OB ++ news) ∧ News h₀ L h (OB ++ (267, t) :: news) ∧ ∀ p ∈ OB, p.1 ≠ 267 := by
  refine ⟨o1 ++ mid, by rw [List.append_assoc]; exact FA, fun p hp => N p ?_, List.forall_mem_append.mpr ⟨ne, nm⟩⟩
  simp only [List.mem_cons, List.mem_append] at hp ⊢
  rcases hp with (h | h) | h | h
  · exact .inl h
  · exact .inr (.inr (.inl h))
  · exact .inr (.inl h)
  · exact .inr (.inr (.inr h))
theorem mid_in {o1 news : List (Addr × Obj)} {p : Addr × Obj} (h : p ∈ o1 ++ news) (T : Addr × Obj) : p ∈ o1 ++ T :: news := by
  rcases List.mem_append.mp h with h | h
  · exact List.mem_append_left _ h
  · exact List.mem_append_right _ (.tail _ h)
theorem FqpAt.inst {P : Params} {q : Int} {x : Addr} {ns rows : List Int} {o1 news : List (Addr × Obj)} (h : FqpAt P q x ns rows (o1 ++ news)) (T : Addr × Obj) :
    ∃ dx tc tm dg t1 t2 t3 t4 t5 t6, (x, instObj 368 dx) ∈ o1 ++ T :: news ∧ (dx, p4D P q tc tm dg t1 t2 t3 t4 t5 t6) ∈ o1 ++ T :: news := by
  obtain ⟨dx, tc, tm, vs, ms, dg, a1, a2, a3, a4, a5, a6, x1, x2, _⟩ := h
  exact ⟨dx, tc, tm, dg, a1, a2, a3, a4, a5, a6, mid_in x1 T, mid_in x2 T⟩
theorem tab_front {h₀ h : Heap} {L : Addr} {T : Addr × Obj} {o1 news : List (Addr × Obj)} (N : News h₀ L h (o1 ++ T :: news)) : News h₀ L h (T :: (o1 ++ news)) := fun p hp => by
  apply N p
  simp only [List.mem_cons, List.mem_append] at hp ⊢
  rcases hp with h | h | h
  · exact .inr (.inl h)
  · exact .inl h
  · exact .inr (.inr h)
theorem pow_half {n : Int} {f : Nat} (h : n < 2 ^ (f + 1)) (h0 : 0 ≤ n) (h1 : n ≠ 0) (h2 : n ≠ 1) : 0 < f ∧ 0 ≤ n.fdiv 2 ∧ n.fdiv 2 < 2 ^ f ∧ n.fdiv 2 ≤ n := by
  rw [Int.fdiv_eq_ediv_of_nonneg _ (by decide)]
  have hf : 0 < f := by
    rcases Nat.eq_zero_or_pos f with rfl | h9
    · simp at h; omega
    · exact h9
  have e : (2 : Int) ^ (f + 1) = 2 ^ f * 2 := Int.pow_succ 2 f
  rw [e] at h
  refine ⟨hf, by omega, ?_, by omega⟩
  exact Int.ediv_lt_of_lt_mul (by decide) h
section
variable {w : World} {p : Program} {loose : List Str} {mean : ExcName → Option Value} {mg mb : Str → Option Value} {dp un : Nat} {gd : Option (List Code)} {A₀ : Around} {env : Env} {outer : List Env} {base h₀ : Heap} {L : Addr} {m : Str → Option Value} {s : Shared} {Q E : Value → Shared → Prop} {news : List (Addr × Obj)}
set_option maxRecDepth 100000 in
set_option maxHeartbeats 8000000 in
theorem pow_step {q : Int} {rows : List Int} {d f : Nat} (hq : 1 < q) (hq2 : q ≤ 4000000000000000000) (hd1 : 1 ≤ d) (hd3 : d ≤ 3) (hr : rows.length = d) (ih : PowC w q rows d f) : PowC w q rows d (f + 1) := by
  intro p loose mean mg mb dp un gd A₀ env outer base h₀ L m s Q E news x xs n tn ps hf0 hf hke hdp hun B F X N T ht C hne hX hxs hqx hn0 hn hn6 hret
  have hX0 := hX
  obtain ⟨dx, tc, tm, vs, ms, dg, a1, a2, a3, a4, a5, a6, x1, x2, x3, x4, FX, hms, hdg⟩ := hX
  obtain rfl : dg = (d : Int) := by rw [hdg, hr]
  refine wpAny_call ?_
  k_dflt k_enter
  k_steps
  · delta StopAt
    with_reducible rename (IntsAre _ ([1] ++ _)) => hI
    with_reducible rename News _ _ _ _ => N9
    with_reducible rename (n = 0) => hz
    have N8 := Pull.news (a := 267) (o := tabObj ps) N9 (by repeat (first | with_reducible exact Pull.here | with_reducible apply Pull.there))
    have e : powL q rows d (f + 1) xs n = oneL q d := by show (if n = 0 then _ else _) = _; rw [if_pos hz]
    rw [e] at hret
    have hwl := hI.length
    have hol := (congrArg List.length (one_eq (q := q) hd1)).symm
    rw [List.length_map, oneL_len hd1] at hol
    refine' fqp_made (ps := ps) (ns := oneL q d) (dn := d) rfl rfl ?qD ?qU ?q1 ?q2 ?q3 N8 ?q5 ht C ?ne (by k_mem) (by k_mem) (by k_mem) (.head _) (.inl ⟨_, rfl⟩) (coef_ints hI (one_eq hd1)) hms (hwl.trans hol) (hms.length.trans hr) (oneL_len hd1) (by omega) (by omega) ?_
    (case qD => ((try simp +zetaDelta only [depth_mark, depth_under_make, depth_under_kw, depth_in1, depth_deeper]); (try dsimp only); omega))
    (case qU => ((try simp +zetaDelta only [units_under_make, units_in1, units_deeper, Around.mark_units]); (try dsimp only); omega))
    case q1 => k_asm
    case q2 => k_asm
    case q3 => k_asm
    case q5 => k_asm
    case ne => ((repeat (refine List.forall_mem_cons.mpr (And.intro (by first | decide | exact Nat.ne_of_gt (by omega)) ?_))); first | with_reducible assumption | exact List.forall_mem_nil _)
    k_whole
    intro x' objs' ps' h' tk' gn' ht' FA' ne' F' N' gb'
    clear N9 N8
    k_steps
    with_reducible rename News h₀ L _ _ => N7
    obtain ⟨OB, f1, f2, f3⟩ := made_fin [_, _, _, _] FA' N7 ne' (by ((repeat (refine List.forall_mem_cons.mpr (And.intro (by first | decide | exact Nat.ne_of_gt (by omega)) ?_))); first | with_reducible assumption | exact List.forall_mem_nil _))
    exact hret _ OB _ _ _ _ ht' f1 f3 (oneL_len hd1) (oneL_in hq) (by k_asm) f2 gb'
  · delta StopAt
    with_reducible rename News _ _ _ _ => N9
    with_reducible rename (n ≠ 0) => hz
    with_reducible rename (n = 1) => h1
    have e : powL q rows d (f + 1) xs n = xs := by show (if n = 0 then _ else if n = 1 then _ else _) = _; rw [if_neg hz, if_pos h1]
    rw [e] at hret
    refine' fqp_made (ps := ps) (ns := xs) (dn := d) rfl rfl ?qD ?qU ?q1 ?q2 ?q3 N9 ?q5 ht C hne x1 x2 x4 x3 (.inr rfl) (coef_of FX fun _ h => h) hms (FX.1.trans hxs) (hms.length.trans hr) hxs (by omega) (by omega) ?_
    (case qD => ((try simp +zetaDelta only [depth_mark, depth_under_make, depth_under_kw, depth_in1, depth_deeper]); (try dsimp only); omega))
    (case qU => ((try simp +zetaDelta only [units_under_make, units_in1, units_deeper, Around.mark_units]); (try dsimp only); omega))
    case q1 => k_asm
    case q2 => k_asm
    case q3 => k_asm
    case q5 => k_asm
    k_whole
    intro x' objs' ps' h' tk' gn' ht' FA' ne' F' N' gb'
    clear N9
    k_steps
    exact hret _ _ _ _ _ _ ht' FA' ne' hxs hqx (by k_asm) (by k_asm) gb'
  · delta StopAt
    with_reducible rename News _ _ _ _ => N9
    with_reducible rename (n ≠ 0) => hz
    with_reducible rename (n ≠ 1) => h1
    with_reducible rename (n.fmod 2 = 0) => he
    obtain ⟨hf1, hh0, hh1, hh2⟩ := pow_half hn hn0 hz h1
    have e : powL q rows d (f + 1) xs n = powL q rows d f (mulL q rows d xs xs) (n.fdiv 2) := by
      show (if n = 0 then _ else if n = 1 then _ else if n.fmod 2 = 0 then _ else _) = _
      rw [if_neg hz, if_neg h1, if_pos he]
    rw [e] at hret
    refine' mul_c (ps := ps) (d := d) rfl rfl ?qD ?qU ?q1 ?q2 ?q3 N9 ?q5 ht C hne hX0 hX0 hd1 hd3 hr hxs hxs hqx hqx (by omega) hq2 ?_
    (case qD => ((try simp +zetaDelta only [depth_mark, depth_under_make, depth_under_kw, depth_in1, depth_deeper]); (try dsimp only); omega))
    (case qU => ((try simp +zetaDelta only [units_under_make, units_in1, units_deeper, Around.mark_units]); (try dsimp only); omega))
    case q1 => k_asm
    case q2 => k_asm
    case q3 => k_asm
    case q5 => k_asm
    k_whole
    intro x1' objs1 ps1 h1' tk1 gn1 ht1 FA1 ne1 len1 q1' F1 N1 gb1
    clear N9
    obtain ⟨dx1, _, _, _, _, _, _, _, _, _, mi1, mj1⟩ := FA1.inst (267, tabObj ps1)
    k_steps
    delta StopAt
    with_reducible rename News _ _ _ _ => N9
    have ne11 := List.forall_mem_append.mpr ⟨ne1, hne⟩
    refine' ih (ps := ps1) (news := objs1 ++ news) hf1 rfl rfl ?qD ?qU ?q1 ?q2 ?q3 (tab_front N9) ?q5 ht1 C ne11 FA1 len1 q1' hh0 hh1 (by omega) ?_
    (case qD => ((try simp +zetaDelta only [depth_mark, depth_under_make, depth_under_kw, depth_in1, depth_deeper]); (try dsimp only); omega))
    (case qU => ((try simp +zetaDelta only [units_under_make, units_in1, units_deeper, Around.mark_units]); (try dsimp only); omega))
    case q1 => k_asm
    case q2 => k_asm
    case q3 => k_asm
    case q5 => k_asm
    k_whole
    intro x2' objs2 ps2 h2' tk2 gn2 ht2 FA2 ne2 len2 q2' F2 N2 gb2
    clear N9
    k_steps
    with_reducible rename News h₀ L _ _ => N7
    obtain ⟨OB, f1, f2, f3⟩ := made_fin objs1 FA2 N7 ne2 ne1
    exact hret _ OB _ _ _ _ ht2 f1 f3 len2 q2' (by k_asm) f2 (fun hb => gb2 (gb1 hb))
  · delta StopAt
    with_reducible rename News _ _ _ _ => N9
    with_reducible rename (n ≠ 0) => hz
    with_reducible rename (n ≠ 1) => h1
    with_reducible rename (¬ n.fmod 2 = 0) => he
    obtain ⟨hf1, hh0, hh1, hh2⟩ := pow_half hn hn0 hz h1
    have e : powL q rows d (f + 1) xs n = mulL q rows d (powL q rows d f (mulL q rows d xs xs) (n.fdiv 2)) xs := by
      show (if n = 0 then _ else if n = 1 then _ else if n.fmod 2 = 0 then _ else _) = _
      rw [if_neg hz, if_neg h1, if_neg he]
    rw [e] at hret
    refine' mul_c (ps := ps) (d := d) rfl rfl ?qD ?qU ?q1 ?q2 ?q3 N9 ?q5 ht C hne hX0 hX0 hd1 hd3 hr hxs hxs hqx hqx (by omega) hq2 ?_
    (case qD => ((try simp +zetaDelta only [depth_mark, depth_under_make, depth_under_kw, depth_in1, depth_deeper]); (try dsimp only); omega))
    (case qU => ((try simp +zetaDelta only [units_under_make, units_in1, units_deeper, Around.mark_units]); (try dsimp only); omega))
    case q1 => k_asm
    case q2 => k_asm
    case q3 => k_asm
    case q5 => k_asm
    k_whole
    intro x1' objs1 ps1 h1' tk1 gn1 ht1 FA1 ne1 len1 q1' F1 N1 gb1
    clear N9
    obtain ⟨dx1, _, _, _, _, _, _, _, _, _, mi1, mj1⟩ := FA1.inst (267, tabObj ps1)
    k_steps
    delta StopAt
    with_reducible rename News _ _ _ _ => N9
    have ne11 := List.forall_mem_append.mpr ⟨ne1, hne⟩
    refine' ih (ps := ps1) (news := objs1 ++ news) hf1 rfl rfl ?qD ?qU ?q1 ?q2 ?q3 (tab_front N9) ?q5 ht1 C ne11 FA1 len1 q1' hh0 hh1 (by omega) ?_
    (case qD => ((try simp +zetaDelta only [depth_mark, depth_under_make, depth_under_kw, depth_in1, depth_deeper]); (try dsimp only); omega))
    (case qU => ((try simp +zetaDelta only [units_under_make, units_in1, units_deeper, Around.mark_units]); (try dsimp only); omega))
    case q1 => k_asm
    case q2 => k_asm
    case q3 => k_asm
    case q5 => k_asm
    k_whole
    intro x2' objs2 ps2 h2' tk2 gn2 ht2 FA2 ne2 len2 q2' F2 N2 gb2
    clear N9
    obtain ⟨dx2, _, _, _, _, _, _, _, _, _, mi2, mj2⟩ := FA2.inst (267, tabObj ps2)
    have mix : (x, instObj 368 dx) ∈ objs2 ++ (267, tabObj ps2) :: (objs1 ++ news) := List.mem_append_right _ (.tail _ (List.mem_append_right _ x1))
    have mjx : (dx, p4D w.params q tc tm (d : Int) a1 a2 a3 a4 a5 a6) ∈ objs2 ++ (267, tabObj ps2) :: (objs1 ++ news) := List.mem_append_right _ (.tail _ (List.mem_append_right _ x2))
    k_steps
    delta StopAt
    with_reducible rename News _ _ _ _ => N9
    have up : ∀ p ∈ news, p ∈ objs2 ++ (objs1 ++ news) := fun p hp => List.mem_append_right _ (List.mem_append_right _ hp)
    refine' mul_c (ps := ps2) (d := d) (news := objs2 ++ (objs1 ++ news)) rfl rfl ?qD ?qU ?q1 ?q2 ?q3 (tab_front N9) ?q5 ht2 C (List.forall_mem_append.mpr ⟨ne2, ne11⟩) FA2 (hX0.mono up) hd1 hd3 hr len2 hxs q2' hqx (by omega) hq2 ?_
    (case qD => ((try simp +zetaDelta only [depth_mark, depth_under_make, depth_under_kw, depth_in1, depth_deeper]); (try dsimp only); omega))
    (case qU => ((try simp +zetaDelta only [units_under_make, units_in1, units_deeper, Around.mark_units]); (try dsimp only); omega))
    case q1 => k_asm
    case q2 => k_asm
    case q3 => k_asm
    case q5 => k_asm
    k_whole
    intro x3' objs3 ps3 h3' tk3 gn3 ht3 FA3 ne3 len3 q3' F3 N3 gb3
    clear N9
    k_steps
    with_reducible rename News h₀ L _ _ => N7
    rw [← List.append_assoc objs2 objs1 news] at FA3 N7
    obtain ⟨OB, f1, f2, f3⟩ := made_fin (objs2 ++ objs1) FA3 N7 ne3 (List.forall_mem_append.mpr ⟨ne2, ne1⟩)
    exact hret _ OB _ _ _ _ ht3 f1 f3 len3 q3' (by k_asm) f2 (fun hb => gb3 (gb2 (gb1 hb)))
theorem pow_c {q : Int} {rows : List Int} {d : Nat} (hq : 1 < q) (hq2 : q ≤ 4000000000000000000) (hd1 : 1 ≤ d) (hd3 : d ≤ 3) (hr : rows.length = d) : ∀ f, PowC w q rows d f
  | 0 => fun hf0 => absurd hf0 (Nat.lt_irrefl 0)
  | f + 1 => pow_step hq hq2 hd1 hd3 hr (pow_c hq hq2 hd1 hd3 hr f)
end

-- piece plaw
noncomputable def CgL (m a b : Int) : Prop := ∃ k, a = b + m * k
theorem CgL.refl (m a : Int) : CgL m a a := ⟨0, by omega⟩
theorem CgL.mod {m a b : Int} (h : CgL m a b) : CgL m (a % m) b := by
  obtain ⟨k, e⟩ := h
  refine ⟨k - a / m, ?_⟩
  have := Int.emod_add_mul_ediv a m
  grind
theorem CgL.add {m a b c d : Int} (h : CgL m a b) (g : CgL m c d) : CgL m (a + c) (b + d) := by
  obtain ⟨k, e⟩ := h
  obtain ⟨l, f⟩ := g
  exact ⟨k + l, by grind⟩
theorem CgL.sub {m a b c d : Int} (h : CgL m a b) (g : CgL m c d) : CgL m (a - c) (b - d) := by
  obtain ⟨k, e⟩ := h
  obtain ⟨l, f⟩ := g
  exact ⟨k - l, by grind⟩
theorem CgL.neg {m a b : Int} (h : CgL m a b) : CgL m (-a) (-b) := by
  obtain ⟨k, e⟩ := h
  exact ⟨-k, by grind⟩
theorem CgL.mul {m a b c d : Int} (h : CgL m a b) (g : CgL m c d) : CgL m (a * c) (b * d) := by
  obtain ⟨k, e⟩ := h
  obtain ⟨l, f⟩ := g
  exact ⟨k * d + b * l + m * k * l, by grind⟩
theorem CgL.fin {m A B a b : Int} (h1 : CgL m A a) (h2 : CgL m B b) (h : a = b) : A % m = B % m := by
  obtain ⟨k, e⟩ := h1
  obtain ⟨l, f⟩ := h2
  rw [e, f, h, Int.add_mul_emod_self_left, Int.add_mul_emod_self_left]
theorem lay85 : True := by
  k_with "m:cgl" => repeat (with_reducible first | apply CgL.add | apply CgL.sub | apply CgL.mul | apply CgL.neg | apply CgL.mod | exact CgL.refl _ _)
  trivial
theorem pl1 {m : Int} (hm : 2 ≤ m) (r0 x0 y0 : Int) : prodL m [r0] 1 [x0] [y0] = [(x0 * y0) % m] := by
  have f (a : Int) : a.fmod m = a % m := Int.fmod_eq_emod_of_nonneg _ (by omega)
  simp [prodL, prodAt, turnL, f, List.range, List.range.loop]
  rw [Int.mul_comm]
theorem pl2 {m : Int} (hm : 2 ≤ m) (r0 r1 x0 x1 y0 y1 : Int) : prodL m [r0, r1] 2 [x0, x1] [y0, y1] = [(x0 * y0 - x1 * y1 * r0) % m, (x0 * y1 + x1 * y0 - x1 * y1 * r1) % m] := by
  have f (a : Int) : a.fmod m = a % m := Int.fmod_eq_emod_of_nonneg _ (by omega)
  simp [prodL, prodAt, turnL, f, List.range, List.range.loop]
  refine ⟨CgL.fin (by walk_at "cgl") (by walk_at "cgl") ?_, CgL.fin (by walk_at "cgl") (by walk_at "cgl") ?_⟩ <;> grind
theorem pl3 {m : Int} (hm : 2 ≤ m) (r0 r1 r2 x0 x1 x2 y0 y1 y2 : Int) : prodL m [r0, r1, r2] 3 [x0, x1, x2] [y0, y1, y2] =
    [(x0 * y0 - (x1 * y2 + x2 * y1 - x2 * y2 * r2) * r0) % m, (x0 * y1 + x1 * y0 - (x1 * y2 + x2 * y1 - x2 * y2 * r2) * r1 - x2 * y2 * r0) % m,
      (x0 * y2 + x1 * y1 + x2 * y0 - (x1 * y2 + x2 * y1 - x2 * y2 * r2) * r2 - x2 * y2 * r1) % m] := by
  have f (a : Int) : a.fmod m = a % m := Int.fmod_eq_emod_of_nonneg _ (by omega)
  simp [prodL, prodAt, turnL, f, List.range, List.range.loop]
  refine ⟨CgL.fin (by walk_at "cgl") (by walk_at "cgl") ?_, CgL.fin (by walk_at "cgl") (by walk_at "cgl") ?_, CgL.fin (by walk_at "cgl") (by walk_at "cgl") ?_⟩ <;> grind
theorem ml1 {m : Int} (r0 x0 y0 : Int) : mulL m [r0] 1 [x0] [y0] = [(x0 * y0) % m] := by
  simp [mulL, redu, mOut, mIn, mStep]
theorem ml2 {m : Int} (r0 r1 x0 x1 y0 y1 : Int) : mulL m [r0, r1] 2 [x0, x1] [y0, y1] = [(x0 * y0 - x1 * y1 * r0) % m, (x0 * y1 + x1 * y0 - x1 * y1 * r1) % m] := by
  simp [mulL, redu, mOut, mIn, mStep, sIn, sStep, List.replicate]
  refine ⟨CgL.fin (by walk_at "cgl") (by walk_at "cgl") ?_, CgL.fin (by walk_at "cgl") (by walk_at "cgl") ?_⟩ <;> grind
theorem ml3 {m : Int} (r0 r1 r2 x0 x1 x2 y0 y1 y2 : Int) : mulL m [r0, r1, r2] 3 [x0, x1, x2] [y0, y1, y2] =
    [(x0 * y0 - (x1 * y2 + x2 * y1 - x2 * y2 * r2) * r0) % m, (x0 * y1 + x1 * y0 - (x1 * y2 + x2 * y1 - x2 * y2 * r2) * r1 - x2 * y2 * r0) % m,
      (x0 * y2 + x1 * y1 + x2 * y0 - (x1 * y2 + x2 * y1 - x2 * y2 * r2) * r2 - x2 * y2 * r1) % m] := by
  simp [mulL, redu, mOut, mIn, mStep, sIn, sStep, List.replicate]
  refine ⟨CgL.fin (by walk_at "cgl") (by walk_at "cgl") ?_, CgL.fin (by walk_at "cgl") (by walk_at "cgl") ?_, CgL.fin (by walk_at "cgl") (by walk_at "cgl") ?_⟩ <;> grind
theorem len1 {l : List Int} (h : l.length = 1) : ∃ a, l = [a] := by
  match l, h with
  | [a], _ => exact ⟨a, rfl⟩
theorem len2 {l : List Int} (h : l.length = 2) : ∃ a b, l = [a, b] := by
  match l, h with
  | [a, b], _ => exact ⟨a, b, rfl⟩
theorem len3 {l : List Int} (h : l.length = 3) : ∃ a b c, l = [a, b, c] := by
  match l, h with
  | [a, b, c], _ => exact ⟨a, b, c, rfl⟩
theorem mul_prod {m : Int} (hm : 2 ≤ m) {d : Nat} {rows x y : List Int} (d1 : 1 ≤ d) (d3 : d ≤ 3) (lr : rows.length = d) (lx : x.length = d) (ly : y.length = d) : mulL m rows d x y = prodL m rows d x y := by
  have hc : d = 1 ∨ d = 2 ∨ d = 3 := by omega
  rcases hc with rfl | rfl | rfl
  · obtain ⟨_, rfl⟩ := len1 lr; obtain ⟨_, rfl⟩ := len1 lx; obtain ⟨_, rfl⟩ := len1 ly
    rw [ml1, pl1 hm]
  · obtain ⟨_, _, rfl⟩ := len2 lr; obtain ⟨_, _, rfl⟩ := len2 lx; obtain ⟨_, _, rfl⟩ := len2 ly
    rw [ml2, pl2 hm]
  · obtain ⟨_, _, _, rfl⟩ := len3 lr; obtain ⟨_, _, _, rfl⟩ := len3 lx; obtain ⟨_, _, _, rfl⟩ := len3 ly
    rw [ml3, pl3 hm]
theorem prod_assoc {m : Int} (hm : 2 ≤ m) {d : Nat} {rows x y z : List Int} (d1 : 1 ≤ d) (d3 : d ≤ 3) (lr : rows.length = d) (lx : x.length = d) (ly : y.length = d) (lz : z.length = d) : prodL m rows d (prodL m rows d x y) z = prodL m rows d x (prodL m rows d y z) := by
  have hc : d = 1 ∨ d = 2 ∨ d = 3 := by omega
  rcases hc with rfl | rfl | rfl
  · obtain ⟨_, rfl⟩ := len1 lr; obtain ⟨_, rfl⟩ := len1 lx; obtain ⟨_, rfl⟩ := len1 ly; obtain ⟨_, rfl⟩ := len1 lz
    simp only [pl1 hm, List.cons.injEq, and_true]
    refine CgL.fin (by walk_at "cgl") (by walk_at "cgl") ?_
    grind
  · obtain ⟨_, _, rfl⟩ := len2 lr; obtain ⟨_, _, rfl⟩ := len2 lx; obtain ⟨_, _, rfl⟩ := len2 ly; obtain ⟨_, _, rfl⟩ := len2 lz
    simp only [pl2 hm, List.cons.injEq, and_true]
    refine ⟨CgL.fin (by walk_at "cgl") (by walk_at "cgl") ?_, CgL.fin (by walk_at "cgl") (by walk_at "cgl") ?_⟩ <;> grind
  · obtain ⟨_, _, _, rfl⟩ := len3 lr; obtain ⟨_, _, _, rfl⟩ := len3 lx; obtain ⟨_, _, _, rfl⟩ := len3 ly; obtain ⟨_, _, _, rfl⟩ := len3 lz
    simp only [pl3 hm, List.cons.injEq, and_true]
    refine ⟨CgL.fin (by walk_at "cgl") (by walk_at "cgl") ?_, CgL.fin (by walk_at "cgl") (by walk_at "cgl") ?_, CgL.fin (by walk_at "cgl") (by walk_at "cgl") ?_⟩ <;> grind
theorem prod_comm {m : Int} (hm : 2 ≤ m) {d : Nat} {rows x y : List Int} (d1 : 1 ≤ d) (d3 : d ≤ 3) (lr : rows.length = d) (lx : x.length = d) (ly : y.length = d) : prodL m rows d x y = prodL m rows d y x := by
  have hc : d = 1 ∨ d = 2 ∨ d = 3 := by omega
  rcases hc with rfl | rfl | rfl
  · obtain ⟨_, rfl⟩ := len1 lr; obtain ⟨_, rfl⟩ := len1 lx; obtain ⟨_, rfl⟩ := len1 ly
    rw [pl1 hm, pl1 hm, Int.mul_comm]
  · obtain ⟨_, _, rfl⟩ := len2 lr; obtain ⟨_, _, rfl⟩ := len2 lx; obtain ⟨_, _, rfl⟩ := len2 ly
    simp only [pl2 hm, List.cons.injEq, and_true]
    refine ⟨CgL.fin (CgL.refl _ _) (CgL.refl _ _) ?_, CgL.fin (CgL.refl _ _) (CgL.refl _ _) ?_⟩ <;> grind
  · obtain ⟨_, _, _, rfl⟩ := len3 lr; obtain ⟨_, _, _, rfl⟩ := len3 lx; obtain ⟨_, _, _, rfl⟩ := len3 ly
    simp only [pl3 hm, List.cons.injEq, and_true]
    refine ⟨CgL.fin (CgL.refl _ _) (CgL.refl _ _) ?_, CgL.fin (CgL.refl _ _) (CgL.refl _ _) ?_, CgL.fin (CgL.refl _ _) (CgL.refl _ _) ?_⟩ <;> grind
theorem prod_one {m : Int} (hm : 2 ≤ m) {d : Nat} {rows x : List Int} (d1 : 1 ≤ d) (d3 : d ≤ 3) (lr : rows.length = d) (lx : x.length = d) (qx : InQ m x) : prodL m rows d (oneL m d) x = x := by
  have h1 : (1 : Int) % m = 1 := Int.emod_eq_of_lt (by omega) (by omega)
  have hc : d = 1 ∨ d = 2 ∨ d = 3 := by omega
  rcases hc with rfl | rfl | rfl
  · obtain ⟨_, rfl⟩ := len1 lr; obtain ⟨a, rfl⟩ := len1 lx
    have ha := qx a (.head _)
    have ea := Int.emod_eq_of_lt ha.1 ha.2
    simp [oneL, h1, pl1 hm, ea]
  · obtain ⟨_, _, rfl⟩ := len2 lr; obtain ⟨a, b, rfl⟩ := len2 lx
    have ha := qx a (.head _)
    have ea := Int.emod_eq_of_lt ha.1 ha.2
    have hb := qx b (.tail _ (.head _))
    have eb := Int.emod_eq_of_lt hb.1 hb.2
    simp [oneL, h1, pl2 hm, ea, eb]
  · obtain ⟨_, _, _, rfl⟩ := len3 lr; obtain ⟨a, b, c, rfl⟩ := len3 lx
    have ha := qx a (.head _)
    have ea := Int.emod_eq_of_lt ha.1 ha.2
    have hb := qx b (.tail _ (.head _))
    have eb := Int.emod_eq_of_lt hb.1 hb.2
    have hc := qx c (.tail _ (.tail _ (.head _)))
    have ec := Int.emod_eq_of_lt hc.1 hc.2
    simp [oneL, h1, pl3 hm, ea, eb, ec, List.replicate]
theorem comp_in {m9 : Int} (hm : 2 ≤ m9) (d : Nat) (g : Nat → Int) : InQ m9 ((List.range d).map fun k => (g k).fmod m9) := by
  intro v hv
  obtain ⟨k, _, rfl⟩ := List.mem_map.mp hv
  exact ⟨Int.fmod_nonneg_of_pos _ (by omega), Int.fmod_lt_of_pos _ (by omega)⟩
noncomputable def accL (m : Int) (rows : List Int) (d : Nat) : Nat → List Int → List Int → Int → List Int
  | 0, due, _, _ => due
  | f + 1, due, b, r => if 0 < r then accL m rows d f (if r.fmod 2 = 1 then prodL m rows d due b else due) (prodL m rows d b b) (r.fdiv 2) else due
theorem prodL_len (m : Int) (rows : List Int) (d : Nat) (a b : List Int) : (prodL m rows d a b).length = d := prodAt_len _ _ _ _ _ _
theorem prodL_in {m : Int} (hm : 2 ≤ m) (rows : List Int) {d : Nat} (hd : 1 ≤ d) (a b : List Int) : InQ m (prodL m rows d a b) := by
  unfold prodL
  cases d with
  | zero => omega
  | succ d => exact comp_in hm _ _
noncomputable def npw (m : Int) (rows : List Int) (d : Nat) (x : List Int) : Nat → List Int
  | 0 => oneL m d
  | n + 1 => prodL m rows d (npw m rows d x n) x
theorem npw_len {m : Int} {rows x : List Int} {d : Nat} (d1 : 1 ≤ d) : ∀ n, (npw m rows d x n).length = d
  | 0 => oneL_len d1
  | _ + 1 => prodL_len _ _ _ _ _
theorem npw_in {m : Int} (hm : 2 ≤ m) {rows x : List Int} {d : Nat} (d1 : 1 ≤ d) : ∀ n, InQ m (npw m rows d x n)
  | 0 => oneL_in (by omega)
  | _ + 1 => prodL_in hm _ d1 _ _
theorem npw_add {m : Int} (hm : 2 ≤ m) {d : Nat} {rows x : List Int} (d1 : 1 ≤ d) (d3 : d ≤ 3) (lr : rows.length = d) (lx : x.length = d) (a : Nat) : ∀ b, npw m rows d x (a + b) = prodL m rows d (npw m rows d x a) (npw m rows d x b)
  | 0 => by
    show npw m rows d x a = prodL m rows d (npw m rows d x a) (oneL m d)
    rw [prod_comm hm d1 d3 lr (npw_len d1 _) (oneL_len d1), prod_one hm d1 d3 lr (npw_len d1 _) (npw_in hm d1 _)]
  | b + 1 => by
    show prodL m rows d (npw m rows d x (a + b)) x = prodL m rows d (npw m rows d x a) (prodL m rows d (npw m rows d x b) x)
    rw [npw_add hm d1 d3 lr lx a b, prod_assoc hm d1 d3 lr (npw_len d1 _) (npw_len d1 _) lx]
theorem npw_one {m : Int} (hm : 2 ≤ m) {d : Nat} {rows x : List Int} (d1 : 1 ≤ d) (d3 : d ≤ 3) (lr : rows.length = d) (lx : x.length = d) (qx : InQ m x) : npw m rows d x 1 = x := prod_one hm d1 d3 lr lx qx
theorem npw_sq {m : Int} (hm : 2 ≤ m) {d : Nat} {rows x : List Int} (d1 : 1 ≤ d) (d3 : d ≤ 3) (lr : rows.length = d) (lx : x.length = d) : ∀ k, npw m rows d (prodL m rows d x x) k = npw m rows d x (2 * k)
  | 0 => rfl
  | k + 1 => by
    show prodL m rows d (npw m rows d (prodL m rows d x x) k) (prodL m rows d x x) = prodL m rows d (prodL m rows d (npw m rows d x (2 * k)) x) x
    rw [npw_sq hm d1 d3 lr lx k, prod_assoc hm d1 d3 lr (npw_len d1 _) lx lx]
theorem nat_fmod (n : Nat) : (n : Int).fmod 2 = ((n % 2 : Nat) : Int) := by
  rw [Int.fmod_eq_emod_of_nonneg _ (by decide)]; omega
theorem nat_fdiv (n : Nat) : (n : Int).fdiv 2 = ((n / 2 : Nat) : Int) := by
  rw [Int.fdiv_eq_ediv_of_nonneg _ (by decide)]; omega
theorem powL_npw {m : Int} (hm : 2 ≤ m) {d : Nat} {rows : List Int} (d1 : 1 ≤ d) (d3 : d ≤ 3) (lr : rows.length = d) : ∀ (f : Nat) (n : Nat) (x : List Int), x.length = d → InQ m x → n < 2 ^ f → (1 ≤ n ∨ 1 ≤ f) → powL m rows d f x (n : Int) = npw m rows d x n
  | 0, n, x, lx, qx, h, g => by
    simp at h
    omega
  | f + 1, n, x, lx, qx, h, g => by
    show (if (n : Int) = 0 then oneL m d else if (n : Int) = 1 then x else if (n : Int).fmod 2 = 0 then powL m rows d f (mulL m rows d x x) ((n : Int).fdiv 2) else mulL m rows d (powL m rows d f (mulL m rows d x x) ((n : Int).fdiv 2)) x) = _
    have e2 : 2 ^ (f + 1) = 2 ^ f * 2 := Nat.pow_succ ..
    by_cases h0 : n = 0
    · subst h0; rfl
    by_cases h1 : n = 1
    · subst h1; exact (npw_one hm d1 d3 lr lx qx).symm
    rw [if_neg (by omega), if_neg (by omega), nat_fmod, nat_fdiv, mul_prod hm d1 d3 lr lx lx, powL_npw hm d1 d3 lr f (n / 2) _ (prodL_len _ _ _ _ _) (prodL_in hm _ d1 _ _) (by omega) (.inl (by omega)), npw_sq hm d1 d3 lr lx]
    by_cases hp : n % 2 = 0
    · rw [if_pos (by omega), show 2 * (n / 2) = n by omega]
    · rw [if_neg (by omega), mul_prod hm d1 d3 lr (npw_len d1 _) lx]
      have e : n = 2 * (n / 2) + 1 := by omega
      exact congrArg (npw m rows d x) e.symm
theorem accL_npw {m : Int} (hm : 2 ≤ m) {d : Nat} {rows : List Int} (d1 : 1 ≤ d) (d3 : d ≤ 3) (lr : rows.length = d) : ∀ (f : Nat) (n : Nat) (due x : List Int), due.length = d → InQ m due → x.length = d → InQ m x → n < 2 ^ f → accL m rows d f due x (n : Int) = prodL m rows d due (npw m rows d x n)
  | 0, n, due, x, ld, qd, lx, qx, h => by
    have h0 : n = 0 := by simp at h; omega
    subst h0
    show due = prodL m rows d due (oneL m d)
    rw [prod_comm hm d1 d3 lr ld (oneL_len d1), prod_one hm d1 d3 lr ld qd]
  | f + 1, n, due, x, ld, qd, lx, qx, h => by
    show (if 0 < (n : Int) then accL m rows d f (if (n : Int).fmod 2 = 1 then prodL m rows d due x else due) (prodL m rows d x x) ((n : Int).fdiv 2) else due) = _
    have e2 : 2 ^ (f + 1) = 2 ^ f * 2 := Nat.pow_succ ..
    by_cases h0 : n = 0
    · subst h0
      rw [if_neg (by omega)]
      show due = prodL m rows d due (oneL m d)
      rw [prod_comm hm d1 d3 lr ld (oneL_len d1), prod_one hm d1 d3 lr ld qd]
    rw [if_pos (by omega), nat_fmod, nat_fdiv]
    by_cases hp : n % 2 = 1
    · rw [if_pos (by omega), accL_npw hm d1 d3 lr f (n / 2) _ _ (prodL_len _ _ _ _ _) (prodL_in hm _ d1 _ _) (prodL_len _ _ _ _ _) (prodL_in hm _ d1 _ _) (by omega), npw_sq hm d1 d3 lr lx,
        prod_assoc hm d1 d3 lr ld lx (npw_len d1 _), prod_comm hm d1 d3 lr lx (npw_len d1 _)]
      have e : n = 2 * (n / 2) + 1 := by omega
      exact congrArg (fun k => prodL m rows d due (npw m rows d x k)) e.symm
    · rw [if_neg (by omega), accL_npw hm d1 d3 lr f (n / 2) _ _ ld qd (prodL_len _ _ _ _ _) (prodL_in hm _ d1 _ _) (by omega), npw_sq hm d1 d3 lr lx, show 2 * (n / 2) = n by omega]
theorem pow_law {m9 : Int} {rows one : List Int} {d : Nat} {r0 : Int} (gm : 2 ≤ m9) (gd1 : 1 ≤ d) (gd3 : d ≤ 3) (lr : rows.length = d) (lo : one.length = d) (qo : InQ m9 one) (h0 : 0 ≤ r0) (h1 : r0 < 4096) : powL m9 rows d 12 one r0 = accL m9 rows d 12 (oneL m9 d) one r0 := by
  obtain ⟨n, rfl⟩ : ∃ n : Nat, r0 = n := ⟨r0.toNat, by omega⟩
  have h2 : n < 2 ^ 12 := by omega
  rw [powL_npw gm gd1 gd3 lr 12 n one lo qo h2 (.inr (by decide)), accL_npw gm gd1 gd3 lr 12 n _ _ (oneL_len gd1) (oneL_in (by omega)) lo qo h2, prod_one gm gd1 gd3 lr (npw_len gd1 _) (npw_in gm gd1 _)]

theorem lay86 : True := by
  k_with "m.mul_fits" => exact mulok_in (by with_reducible assumption) (by omega)
  k_with "m:subscriptTail Name BinOp ref int" => first | ((with_reducible show wpAny _ _ (subscriptTail _ _ (Value.ref _) (Value.int _ _)) _ _ _); k_dflt (refine' int_lst ?Iq7 ?Nq7 ?hmq7 ?hkq7 ?hiq7 ?hzq7 ?_; (case Nq7 => k_asm); (case hmq7 => k_mem); (case Iq7 => with_reducible assumption); (case hkq7 => (first | with_reducible exact Int.zero_add _ | with_reducible exact idxr (by assumption))); (case hiq7 => (first | omega | (simp; omega))); (case hzq7 => omega); k_whole; intro t'q))
  k_with "m:subscriptTail Name Name ref int" => first | ((with_reducible show wpAny _ _ (subscriptTail _ _ (Value.ref _) (Value.int _ _)) _ _ _); k_dflt (refine' int_lst ?Iq7 ?Nq7 ?hmq7 ?hkq7 ?hiq7 ?hzq7 ?_; (case Nq7 => k_asm); (case hmq7 => k_mem); (case Iq7 => with_reducible assumption); (case hkq7 => (first | with_reducible exact Int.zero_add _ | with_reducible exact idxr (by assumption))); (case hiq7 => (first | omega | (simp; omega))); (case hzq7 => omega); k_whole; intro t'q))
  k_with "m:subscriptTail Name UnaryOp ref int" => first | ((with_reducible show wpAny _ _ (subscriptTail _ _ (Value.ref _) (Value.int _ _)) _ _ _); k_dflt (refine' int_last ?Iq7 ?Nq7 ?hmq7 ?hdq7 ?h1q7 ?hzq7 ?_; (case Nq7 => k_asm); (case hmq7 => k_mem); (case Iq7 => with_reducible assumption); (case hdq7 => with_reducible assumption); (case h1q7 => omega); (case hzq7 => omega); k_whole; intro t'q))
  k_with "m:eval ListComp" => (k_dflt (refine ListComp_G (by k_asm) (by with_unfolding_all rfl) (by decide) (by rfl) (by decide) (by rfl) ?_))
  k_with "m:exec For Name Call cons nil" => ((rename Fr _ _ _ _ => lF'q); (k_dflt (refine' For_LC lF'q ?hhq7 ?k0q7 ?k1q7 ?k2q7 ?_; (case hhq7 => exact rfl); (case k0q7 => exact rfl); (case k1q7 => exact rfl); (case k2q7 => exact rfl); k_whole)))
  k_with "m:exec For" => ((rename Fr _ _ _ _ => lF'q); (k_dflt (refine' For_LC lF'q ?hhq7 ?k0q7 ?k1q7 ?k2q7 ?_; (case hhq7 => exact rfl); (case k0q7 => exact rfl); (case k1q7 => exact rfl); (case k2q7 => exact rfl); k_whole)))
  k_with "m:storeName" => first | ((k_dflt (refine' storeX_C ?Fq7 ?Nq7 ?cq7 ?Uq7 ?dq7 ?_ ?aq7 ?bq7; (case aq7 => rfl); (case bq7 => rfl); (case Fq7 => k_asm); (case Nq7 => k_asm); (case cq7 => rfl); (case Uq7 => k_updF); (case dq7 => k_asm); k_whole; intro h'q o'q F'q N'q d'q; (try dsimp only at N'q); (try k_sweep))))
  trivial
-- piece power
theorem lay87 : True := by
  k_with "m:call ref" => ((with_reducible show wpAny _ _ (call (Value.ref 562) [Value.ref _, Value.int _ _] _) _ _ _); k_dflt (refine' law_at_c ?qFq7 ?qKq7 ?qDq7 ?qUq7 ?q1q7 ?q2q7 ?q3q7 ?q4q7 ?q5q7 ?rlq7 ?riq7 ?rnq7 ?r0q7 ?_; (k_extra "std"); (case rlq7 => k_asm); (case riq7 => k_asm); (case rnq7 => (first | assumption | omega)); (case r0q7 => (first | assumption | omega | decide)); k_whole; intro t'q h'q tk'q F'q N'q b1q b2q; (try dsimp only); (try k_sweep)))
  trivial
section
variable {M : Model} {A : Around} {env : Env} {n : Str} {t : Tok} {Q : Unit → Shared → Prop} {E : Value → Shared → Prop} {s : Shared}
theorem fs_m {u : Int} (h : ∀ v, 2 ≤ v → v ≤ 1000004 → wpAny M A (storeName env n (.int v t)) Q E s) : wpAny M A (storeName env n (.int (2 + u.fmod 1000003) t)) Q E s :=
  h _ (by have := Int.fmod_nonneg_of_pos u (show (0 : Int) < 1000003 by decide); omega) (by have := Int.fmod_lt_of_pos u (show (0 : Int) < 1000003 by decide); omega)
theorem fs_d {u : Int} (h : ∀ d : Nat, 1 ≤ d → d ≤ 3 → wpAny M A (storeName env n (.int (d : Int) t)) Q E s) : wpAny M A (storeName env n (.int (1 + u.fmod 3) t)) Q E s := by
  have h1 := Int.fmod_nonneg_of_pos u (show (0 : Int) < 3 by decide)
  have h2 := Int.fmod_lt_of_pos u (show (0 : Int) < 3 by decide)
  have e : 1 + u.fmod 3 = (((1 + u.fmod 3).toNat : Nat) : Int) := by omega
  rw [e]
  exact h _ (by omega) (by omega)
end
section
variable {prog : Program} {w : World} {A : Around} {E : Value → Shared → Prop} {s : Shared} {h₀ : Heap} {L : Addr}
theorem mod_menu {M : Model} {d : Nat} {a : Value} {u : Tok} {Q : Value → Shared → Prop} (h1 : 1 ≤ d) (h3 : d ≤ 3) (h : ∀ v, 13 ≤ v → v ≤ 4096 → wpAny M A (binaryOp .Mod a (.int v u)) Q E s) : wpAny M A (binaryOp .Mod a (.int ([4096, 41, 13].getD ((d : Int) - 1).toNat 0) u)) Q E s := by
  have hc : d = 1 ∨ d = 2 ∨ d = 3 := by omega
  rcases hc with rfl | rfl | rfl
  · exact h _ (by decide) (by decide)
  · exact h _ (by decide) (by decide)
  · exact h _ (by decide) (by decide)
theorem fs_n {M : Model} {env : Env} {n : Str} {t : Tok} {a v : Int} {Q : Unit → Shared → Prop} (hv : 13 ≤ v) (hv2 : v ≤ 4096) (h : ∀ r, 0 ≤ r → r < 4096 → wpAny M A (storeName env n (.int r t)) Q E s) : wpAny M A (storeName env n (.int (a.fmod v) t)) Q E s :=
  h _ (Int.fmod_nonneg_of_pos _ (by omega)) (Int.lt_of_lt_of_le (Int.fmod_lt_of_pos _ (by omega)) hv2)
end
theorem lay88 : True := by
  k_with "m:binaryOp Mod int int" => first | ((with_reducible show wpAny _ _ (binaryOp Operator.Mod _ (Value.int (List.getD _ _ _) _)) _ _ _); k_dflt (refine mod_menu (by assumption) (by assumption) ?_); intro v'q g1q g2q)
  k_with "m:storeName" => first | ((with_reducible show wpAny _ _ (storeName _ (PySem.Str.ofString "n") (Value.int (Int.fmod _ _) _)) _ _ _); k_dflt (refine' fs_n (by assumption) (by assumption) ?_); intro r'q g1q g2q)
  trivial
inductive KPw (led : List (Addr × Obj)) (m9 : Int) (rows : List Int) (d : Nat) (fin : List Int) (m₀ : Str → Option Value) (k : Nat) (m' : Str → Option Value) (nw : List (Addr × Obj)) : Prop
  | mk : ∀ a b dv bv dl bl c1 c2 r t, ((∀ z, z ≠ Str.ofString "due" → z ≠ Str.ofString "base" → z ≠ Str.ofString "rest" → m' z = m₀ z)) → (m' (Str.ofString "due") = some (.ref a)) → (m' (Str.ofString "base") = some (.ref b)) → (m' (Str.ofString "rest") = some (.int r t)) → (nw = (a, W.listOf dv.toArray c1) :: (b, W.listOf bv.toArray c2) :: led) → (IntsAre dv dl) → (IntsAre bv bl) → (dl.length = d) → (bl.length = d) → (InQ m9 dl) → (InQ m9 bl) → (0 ≤ r) → (r < 2 ^ k) → (r < 5000) → (accL m9 rows d k dl bl r = fin) → KPw led m9 rows d fin m₀ k m' nw
theorem KPw.map {m' m₀ : Str → Option Value} {a b : Addr} {r : Int} {t : Tok} (h : ∀ z, z ≠ Str.ofString "due" → z ≠ Str.ofString "base" → z ≠ Str.ofString "rest" → m' z = m₀ z) (h1 : m' (Str.ofString "due") = some (.ref a)) (h2 : m' (Str.ofString "base") = some (.ref b)) (h3 : m' (Str.ofString "rest") = some (.int r t)) :
    m' = fun z => if z = Str.ofString "due" then some (.ref a) else if z = Str.ofString "base" then some (.ref b) else if z = Str.ofString "rest" then some (.int r t) else m₀ z := by
  funext z
  by_cases e1 : z = Str.ofString "due"
  · rw [if_pos e1, e1, h1]
  · rw [if_neg e1]
    by_cases e2 : z = Str.ofString "base"
    · rw [if_pos e2, e2, h2]
    · rw [if_neg e2]
      by_cases e3 : z = Str.ofString "rest"
      · rw [if_pos e3, e3, h3]
      · rw [if_neg e3]; exact h z e1 e2 e3
theorem acc_go {m : Int} {rows dl bl fin : List Int} {d k : Nat} {r : Int} (h : accL m rows d (k + 1) dl bl r = fin) (h0 : 0 < r) : accL m rows d k (if r.fmod 2 = 1 then prodL m rows d dl bl else dl) (prodL m rows d bl bl) (r.fdiv 2) = fin := by
  rw [← h]
  show _ = (if 0 < r then _ else _)
  rw [if_pos h0]
theorem acc_stop {m : Int} {rows dl bl fin : List Int} {d k : Nat} {r : Int} (h : accL m rows d k dl bl r = fin) (h0 : ¬ 0 < r) : dl = fin := by
  rw [← h]
  cases k with
  | zero => rfl
  | succ k => show _ = (if 0 < r then _ else _); rw [if_neg h0]
theorem half_lt {r : Int} {k : Nat} (h : r < 2 ^ (k + 1)) (h0 : 0 ≤ r) : 0 ≤ r.fdiv 2 ∧ r.fdiv 2 < 2 ^ k ∧ r.fdiv 2 ≤ r := by
  rw [Int.fdiv_eq_ediv_of_nonneg _ (by decide)]
  have e : (2 : Int) ^ (k + 1) = 2 ^ k * 2 := Int.pow_succ 2 k
  rw [e] at h
  exact ⟨by omega, Int.ediv_lt_of_lt_mul (by decide) h, by omega⟩
theorem oneP_eq {m : Int} {d : Nat} (hm : 2 ≤ m) (hd : 1 ≤ d) : [Int.fmod 1 m] ++ (List.replicate ((d : Int) - 1).toNat [(0 : Int)]).flatten = oneL m d := by
  rw [one_eq hd, List.map_append, Int.fmod_eq_emod_of_nonneg _ (by omega)]
  congr 1
  induction ((d : Int) - 1).toNat with
  | zero => rfl
  | succ k ih => rw [List.replicate_succ, List.flatten_cons, List.map_append, ← ih]; simp
theorem name_r {r : Int} (_h : r < 4096) : ∃ r9 : Int, r9 = r := ⟨_, rfl⟩
theorem lay89 : True := by
  k_with "m:call ref" => ((with_reducible show wpAny _ _ (call (Value.ref 602) [Value.int _ _, Value.ref _, Value.ref _, Value.ref _] _) _ _ _); k_dflt (refine' prod_c ?qFq7 ?qKq7 ?qDq7 ?qUq7 ?q1q7 ?q2q7 ?q3q7 ?q4q7 ?q5q7 ?rh1q7 ?rh2q7 ?rh3q7 ?ri1q7 ?ri2q7 ?ri3q7 ?rmq7 ?rm2q7 ?rd1q7 ?rd3q7 ?re1q7 ?re2q7 ?re3q7 ?rq1q7 ?rq2q7 ?_; (k_extra "std"); (case rh1q7 => k_mem); (case rh2q7 => k_mem); (case rh3q7 => k_mem); (case ri1q7 => with_reducible assumption); (case ri2q7 => with_reducible assumption); (case ri3q7 => with_reducible assumption); (case rmq7 => omega); (case rm2q7 => omega); (case rd1q7 => assumption); (case rd3q7 => assumption); (case re1q7 => with_reducible assumption); (case re2q7 => with_reducible assumption); (case re3q7 => with_reducible assumption); (case rq1q7 => with_reducible assumption); (case rq2q7 => with_reducible assumption); k_whole; intro D'q us'q cap'q h'q tk'q IA'q F'q N'q; (try dsimp only); (try k_sweep)))
  trivial
theorem gen_tail {h₀ h : Heap} {L : Addr} {b : Addr × Obj} {l : List (Addr × Obj)} (N : News h₀ L h (b :: l)) : ∃ l', l' = l ∧ News h₀ L h (b :: l') := ⟨_, rfl, N⟩
theorem ne_tab {h₀ h : Heap} {L a : Addr} {v : Array Value} {c : Nat} {ps : Array Value} {l : List (Addr × Obj)} (N : News h₀ L h l) (m1 : (a, W.listOf v c) ∈ l) (m2 : (267, tabObj ps) ∈ l) : a ≠ 267 := by
  rintro rfl
  have e := (N _ m1).1.symm.trans (N _ m2).1
  have e2 : (W.listOf v c).cls = (tabObj ps).cls := congrArg Obj.cls (Option.some.inj e)
  exact absurd e2 (by show ¬ (Value.type "list" = _); intro h9; cases h9)
theorem inQ_mod {q : Int} {ns : List Int} (h : InQ q ns) : ns = ns.map (· % q) := by
  conv => lhs; rw [← List.map_id ns]
  apply List.map_congr_left
  intro v hv
  have := h v hv
  exact (Int.emod_eq_of_lt this.1 this.2).symm
theorem lay90 : True := by
  k_with "m:eval ListComp" => first | ((with_reducible show wpAny _ _ (eval (PySem.Expr.ListComp (PySem.Expr.IfExp _ _ _ _) _ _ _) _) _ _ _); k_dflt (refine ListComp_Tup (by k_asm) (by with_unfolding_all rfl) (by decide) (by rfl) (by decide) (by rfl) ?_))
  trivial
theorem name_of {v : Int} (_h : 2 ≤ v) : ∃ m9 : Int, m9 = v := ⟨_, rfl⟩
theorem name_d {d : Nat} (_h : 1 ≤ d) : ∃ d9 : Nat, d9 = d := ⟨_, rfl⟩
theorem gen_ints {us : List Value} {d : Nat} {m9 : Int} {g : Nat → Int} (hm : 2 ≤ m9) (I : IntsAre us ((List.range d).map fun k => (g k).fmod m9)) : ∃ rows : List Int, IntsAre us rows ∧ rows.length = d ∧ InQ m9 rows := ⟨_, I, by simp, comp_in hm d g⟩
theorem news_tl9 {h₀ h : Heap} {L : Addr} {a : Addr × Obj} {r : List (Addr × Obj)} (N : News h₀ L h (a :: r)) : News h₀ L h r := fun p hp => N p (.tail _ hp)
theorem lay91 : True := by
  k_with "m:storeName" => first | ((with_reducible show wpAny _ _ (storeName _ (PySem.Str.ofString "m") (Value.int (2 + _) _)) _ _ _); k_dflt (refine fs_m ?_); intro v'q g1q g2q; (with_reducible rename News _ _ _ _ => N9q); (have N8q := news_tl9 N9q); clear N9q)
  k_with "m:storeName" => first | ((with_reducible show wpAny _ _ (storeName _ (PySem.Str.ofString "degree") (Value.int (1 + _) _)) _ _ _); k_dflt (refine fs_d ?_); intro d'q g1q g2q)
  k_with "m:compareOp Eq ref ref" => first | ((with_reducible show wpAny _ _ (compareOp CmpOp.Eq (Value.ref _) (Value.ref _)) _ _ _); refine StopAt.go ?_)
  k_with "m:call ref" => ((with_reducible show wpAny _ _ (call (Value.ref 368) [Value.ref _, Value.ref _, Value.int _ _] _) _ _ _); refine StopAt.go ?_)
  trivial
section
variable {w : World} {p : Program} {loose : List Str} {mean : ExcName → Option Value} {mg mb : Str → Option Value} {dp un : Nat} {gd : Option (List Code)} {A₀ : Around} {env : Env} {outer : List Env} {base h₀ : Heap} {L : Addr} {m : Str → Option Value} {s : Shared} {Q E : Value → Shared → Prop} {news : List (Addr × Obj)}
set_option maxRecDepth 100000 in
set_option maxHeartbeats 8000000 in
theorem power_c {l : Addr} {vs : List Value} {ns : List Int} {ps : Array Value}
    (hf : env.frame = some L) (hke : env.scope.kind = .function) (hdp : dp ≤ 500) (hun : un ≤ 5000)
    (B : Below A₀ base outer h₀) (F : Fr h₀ L s.heap m) (X : (hd.heap_1 w.params).In h₀) (N : News h₀ L s.heap ((267, tabObj #[]) :: news)) (T : Top p loose mean mg mb h₀)
    (hl : base.IsList l vs.toArray) (hi : IntsAre vs ns) (hns : ns.length ≤ 63)
    (C : CodeW base 271 267) (hne : ∀ p ∈ news, p.1 ≠ 267)
    (hret : ∀ (ps' : Array Value) (h' : Heap) (tk' : Nat) (gn : Array GenState), Fr h₀ L h' m → News h₀ L h' ((267, tabObj ps') :: news) → (AllBare s.gens → AllBare gn) → Q (.bool true) { s with heap := h', toks := tk', gens := gn }) :
    wpAny (model PR w) (ar dp un gd env outer) (call (.ref 607) [.ref l]) Q E s := by
  refine wpAny_call ?_
  (k_dflt (refine' code_defCB (fun z => none) (fun z => if z = Str.ofString "script" then some (.ref l) else none) ?k1 ?k2 ?k3 ?k4 ?k5 ?kA ?kF ?kK ?k6 ?k7 ?k8 ?kP ?k9 ?kB ?kD ?kL ?kC ?_ ?c2 ?c3 ?c4; (case kA => exact rfl); (case kF => first | assumption | exact rfl); (case kK => first | assumption | exact rfl); (case k1 => k_asm); (case k2 => k_asm); (case k3 => k_asm); (case k4 => k_asm); (case k5 => k_asm); (case k6 => k_is); (case k7 => k_is); (case k8 => k_room); (case kP => first | exact BindsP.cons BindsP.nil | exact BindsP.cons (BindsP.cons BindsP.nil) | exact BindsP.cons (BindsP.cons (BindsP.cons BindsP.nil)) | exact BindsP.cons (BindsP.cons (BindsP.cons (BindsP.cons BindsP.nil)))); (case k9 => first | exact BindsTo.of_eq rfl | exact binds_K (by k_in) rfl (by k_is) rfl rfl rfl | fail "k_enter: no rule for these arguments"); (case kB => exact rfl); (case kD => decide +kernel); (case kL => (intro _; funext y; exact rfl)); (case kC => (intro _; funext y; exact rfl)); (case c2 => exact rfl); (case c3 => exact rfl); (case c4 => exact rfl); k_whole; intro g' L' h' tk' cells' FG' F' N' Y' B' X' T' l1; (try k_lt l1); k_cells Y'; (try simp only [List.cons_append, List.nil_append] at N'); (try dsimp only); (try k_lift B'); (first | refine let q' : Flow → Shared → Prop := _; let e' : Value → Shared → Prop := _; let o' : Around := _; let v' : Env := _; let a' : Around := Around.deeper o' v'; let s' : Shared := _; (?_ : wpAny _ a' (execs _ v') q' e' s') | skip)))
  have hn1 : ∀ p ∈ news, p.1 ≠ L' + 1 := fun p hp => Nat.ne_of_lt (Nat.lt_succ_of_lt (kst_ltOf l1.2 p hp))
  have hn2 : ∀ p ∈ news, p.1 ≠ L' + 1 + 1 := fun p hp => Nat.ne_of_lt (Nat.lt_succ_of_lt (Nat.lt_succ_of_lt (kst_ltOf l1.2 p hp)))
  k_steps
  with_reducible rename (2 ≤ _) => gm
  with_reducible rename (_ ≤ (1000004 : Int)) => gm2
  with_reducible rename (1 ≤ (_ : Nat)) => gd1
  with_reducible rename ((_ : Nat) ≤ 3) => gd3
  obtain ⟨m9, em⟩ := name_of gm
  obtain ⟨d, ed⟩ := name_d gd1
  subst em ed
  refine' CompSrcG.rangeA (n := d) (KI (fun k => (lawAt ns (2 + (0 + (k : Int)))).fmod m9) _) rfl ?F1 ?N1 ?hr1 ?hs1 ?hn1 ?hz1 KI.zero ?tu1 ?dn1
  case F1 => k_asm
  case N1 => k_asm
  case hr1 => assumption
  case hs1 => exact small_one (by omega) (by omega) (by omega) (by omega)
  case hn1 => rw [rangeSize_nat]; omega
  case hz1 => (rw [sizeLine_eq]; omega)
  case tu1 =>
    rintro I C9 D oI oC i v m₂ ys nw h tk E' hi ⟨t, rfl⟩ ⟨rfl, hI⟩ hl9 hC hx off ne F N
    k_steps
    refine' TurnEnd.intro ?F ?N (fun _ h9 => h9) off True.intro (KI.next hI ?e)
    case F => k_asm
    case N => k_asm
    case e => rfl
  rintro D1 us1 nw h tk hl1 ⟨rfl, hI1⟩ off1 F N
  obtain ⟨rows, hJ1, lr, qr⟩ := gen_ints gm hI1
  clear hI1
  k_steps
  refine' CompSrcG.rangeA (n := d) (KI (fun k => (lawAt ns (5 + (0 + (k : Int)))).fmod m9) _) rfl ?F2 ?N2 ?hr2 ?hs2 ?hn2 ?hz2 KI.zero ?tu2 ?dn2
  case F2 => k_asm
  case N2 => k_asm
  case hr2 => assumption
  case hs2 => exact small_one (by omega) (by omega) (by omega) (by omega)
  case hn2 => rw [rangeSize_nat]; omega
  case hz2 => (rw [sizeLine_eq]; omega)
  case tu2 =>
    rintro I C9 D oI oC i v m₂ ys nw h tk E' hi ⟨t, rfl⟩ ⟨rfl, hI⟩ hl9 hC hx off ne F N
    k_steps
    refine' TurnEnd.intro ?F ?N (fun _ h9 => h9) off True.intro (KI.next hI ?e)
    case F => k_asm
    case N => k_asm
    case e => rfl
  rintro D2 us2 nw h tk hl2 ⟨rfl, hI2⟩ off2 F N
  obtain ⟨one, hJ2, lo, qo⟩ := gen_ints gm hI2
  clear hI2
  k_steps
  delta StopAt
  with_reducible rename (_ < (4096 : Int)) => hr4
  obtain ⟨r0, er⟩ := name_r hr4
  subst er
  with_reducible rename (0 ≤ r0) => hr0
  with_reducible rename (IntsAre _ ([_] ++ _)) => hI
  rw [oneP_eq gm gd1] at hI
  with_reducible rename News _ _ _ _ => N9
  refine' While_inv (KPw ((D2, W.listOf us2.toArray d) :: (D1, W.listOf us1.toArray d) :: (L' + 1 + 1, _) :: (L' + 1, _) :: (267, tabObj #[]) :: news) m9 rows d (accL m9 rows d 12 (oneL m9 d) one r0) _) (n₀ := 12) ?F (cb_drop N9 ?sub) ⟨_, _, _, _, _, _, _, _, _, _, fun _ _ _ _ => rfl, ?w1, ?w2, ?w3, rfl, hI, hJ2, oneL_len gd1, lo, oneL_in (by omega), qo, hr0, hr4, by omega, rfl⟩ ?turn
  case F => k_asm
  case w1 => exact rfl
  case w2 => exact rfl
  case w3 => exact rfl
  case sub => exact List.forall_mem_cons.mpr ⟨by k_mem, List.forall_mem_cons.mpr ⟨by k_mem, List.forall_mem_cons.mpr ⟨by k_mem, List.forall_mem_cons.mpr ⟨by k_mem, List.forall_mem_cons.mpr ⟨by k_mem, List.forall_mem_cons.mpr ⟨by k_mem, List.forall_mem_cons.mpr ⟨by k_mem, fun p hp => by k_mem⟩⟩⟩⟩⟩⟩⟩
  rintro k m3 nw3 h3 tk3 FF NN ⟨a, b, dv, bv, dl, bl, c1, c2, r, tr, hm3, hma, hmb, hmr, rfl, id, ib, ld, lb, qd, qb, h0, hk, h5, hfin⟩
  have em := KPw.map hm3 hma hmb hmr
  rw [em] at FF
  clear em hm3 hma hmb hmr N9
  by_cases hr1 : 0 < r
  · obtain ⟨k, rfl⟩ : ∃ j, k = j + 1 := by
      cases k with
      | zero => simp at hk; omega
      | succ k => exact ⟨k, rfl⟩
    have hh := half_lt hk h0
    have ag := acc_go hfin hr1
    k_steps
    · with_reducible rename News _ _ _ _ => N9
      have he := (by with_reducible assumption : r.fmod 2 = 1)
      rw [if_pos he] at ag
      refine' WhileStep.intro ?F ?N (Nat.lt_succ_self k) ⟨_, _, _, _, _, _, _, _, _, _, ?same, ?w1, ?w2, ?w3, rfl, ?i1, ?i2, prodL_len _ _ _ _ _, prodL_len _ _ _ _ _, prodL_in gm _ gd1 _ _, prodL_in gm _ gd1 _ _, hh.1, hh.2.1, by omega, ag⟩
      case F => k_asm
      case w1 => exact rfl
      case w2 => exact rfl
      case w3 => exact rfl
      case N => exact cb_drop N9 (List.forall_mem_cons.mpr ⟨by k_mem, List.forall_mem_cons.mpr ⟨by k_mem, fun p hp => by k_mem⟩⟩)
      case i1 => assumption
      case i2 => assumption
      case same =>
        intro z h1 h2 h3
        first | (simp only [if_neg h1, if_neg h2, if_neg h3]; done) | (simp +zetaDelta only [upd, if_neg h1, if_neg h2, if_neg h3]; done)
    · with_reducible rename News _ _ _ _ => N9
      have he := (by with_reducible assumption : r.fmod 2 ≠ 1)
      rw [if_neg he] at ag
      refine' WhileStep.intro ?F ?N (Nat.lt_succ_self k) ⟨_, _, _, _, _, _, _, _, _, _, ?same, ?w1, ?w2, ?w3, rfl, ?i1, ?i2, ld, prodL_len _ _ _ _ _, qd, prodL_in gm _ gd1 _ _, hh.1, hh.2.1, by omega, ag⟩
      case F => k_asm
      case w1 => exact rfl
      case w2 => exact rfl
      case w3 => exact rfl
      case N => exact cb_drop N9 (List.forall_mem_cons.mpr ⟨by k_mem, List.forall_mem_cons.mpr ⟨by k_mem, fun p hp => by k_mem⟩⟩)
      case i1 => assumption
      case i2 => assumption
      case same =>
        intro z h1 h2 h3
        first | (simp only [if_neg h1, if_neg h2, if_neg h3]; done) | (simp +zetaDelta only [upd, if_neg h1, if_neg h2, if_neg h3]; done)
  · have ast := acc_stop hfin hr1
    k_steps
    delta StopAt
    with_reducible rename News _ _ _ _ => N9
    have nea := ne_tab N9 (a := a) (by k_mem) (by k_mem)
    have neb := ne_tab N9 (a := b) (by k_mem) (by k_mem)
    have ned1 := ne_tab N9 (a := D1) (by k_mem) (by k_mem)
    have ned2 := ne_tab N9 (a := D2) (by k_mem) (by k_mem)
    have N8 := Pull.news (a := 267) (o := tabObj #[]) N9 (by repeat (first | with_reducible exact Pull.here | with_reducible apply Pull.there))
    obtain ⟨nw9, en9, N8⟩ := gen_tail N8
    have ne9 : ∀ p ∈ nw9, p.1 ≠ 267 := by
      rw [en9]
      exact List.forall_mem_cons.mpr ⟨nea, List.forall_mem_cons.mpr ⟨neb, List.forall_mem_cons.mpr ⟨ned2, List.forall_mem_cons.mpr ⟨ned1, List.forall_mem_cons.mpr ⟨Nat.ne_of_gt (by omega), List.forall_mem_cons.mpr ⟨Nat.ne_of_gt (by omega), hne⟩⟩⟩⟩⟩⟩
    have ma : (a, W.listOf dv.toArray c1) ∈ nw9 := by rw [en9]; exact .head _
    have md2 : (D2, W.listOf us2.toArray d) ∈ nw9 := by rw [en9]; exact .tail _ (.tail _ (.head _))
    have md1 : (D1, W.listOf us1.toArray d) ∈ nw9 := by rw [en9]; exact .tail _ (.tail _ (.tail _ (.head _)))
    have mnw : ∀ p ∈ news, p ∈ nw9 := fun p hp => by rw [en9]; exact .tail _ (.tail _ (.tail _ (.tail _ (.tail _ (.tail _ hp)))))
    clear N9
    refine' fqp_new (ps := #[]) (ns := one) (dn := d) rfl rfl ?qD ?qU ?q1 ?q2 ?q3 N8 ?q5 (Or.inl rfl) C ne9 md2 (.inl ⟨_, rfl⟩) md1 (.inl ⟨_, rfl⟩) (coef_ints hJ2 (inQ_mod qo)) hJ1 (hJ2.length.trans lo) (hJ1.length.trans lr) lo (by omega) (by omega) ?_
    case qD => ((try simp +zetaDelta only [depth_mark, depth_under_make, depth_under_kw, depth_in1, depth_deeper]); (try dsimp only); omega)
    case qU => ((try simp +zetaDelta only [units_under_make, units_in1, units_deeper, Around.mark_units]); (try dsimp only); omega)
    case q1 => k_asm
    case q2 => k_asm
    case q3 => k_asm
    case q5 => k_asm
    k_whole
    intro x' objs ps' h' tk' gn' ht' FA' ne' F' N' gb'
    clear N8
    obtain ⟨dx1, _, _, _, _, _, _, _, _, _, mi1, mj1⟩ := FA'.inst (267, tabObj ps')
    k_steps
    delta StopAt
    with_reducible rename News _ _ _ _ => N9
    have hr12 : r0 < 2 ^ 12 := hr4
    refine' pow_c (w := w) (by omega : 1 < m9) (by omega) gd1 gd3 lr 12 (ps := ps') (news := objs ++ nw9) (by decide) rfl rfl ?qD ?qU ?q1 ?q2 ?q3 (tab_front N9) ?q5 ht' C (List.forall_mem_append.mpr ⟨ne', ne9⟩) FA' lo qo hr0 hr12 (by omega) ?_
    case qD => ((try simp +zetaDelta only [depth_mark, depth_under_make, depth_under_kw, depth_in1, depth_deeper]); (try dsimp only); omega)
    case qU => ((try simp +zetaDelta only [units_under_make, units_in1, units_deeper, Around.mark_units]); (try dsimp only); omega)
    case q1 => k_asm
    case q2 => k_asm
    case q3 => k_asm
    case q5 => k_asm
    k_whole
    intro x2' objs2 ps2 h2' tk2 gn2 ht2 FA2 ne2 len2 q2' F2 N2 gb2
    clear N9
    obtain ⟨dx2, tc2, tm2, vs2, ms2, dg2, w1, w2, w3, w4, w5, w6, z1, z2, z3, z4, FX2, hms2, hdg2⟩ := FA2
    replace z1 := mid_in z1 (267, tabObj ps2)
    replace z2 := mid_in z2 (267, tabObj ps2)
    replace z3 := mid_in z3 (267, tabObj ps2)
    have FX3 := FX2.mono (fun p hp => mid_in hp (267, tabObj ps2))
    have ma2 : (a, W.listOf dv.toArray c1) ∈ objs2 ++ (267, tabObj ps2) :: (objs ++ nw9) := List.mem_append_right _ (.tail _ (List.mem_append_right _ ma))
    k_steps
    refine' CompTup.of (KI (fun i => (powL m9 rows d 12 one r0).getD i 0) _) rfl ?F ?N ?hm ?hz KI.zero ?tu ?dn
    case F => k_asm
    case N => k_asm
    case hm => k_mem
    case hz => rw [List.size_toArray, FX2.1, len2, sizeLine_eq]; omega
    case tu =>
      rintro I C9 D oI oC i v m₂ ys nw h tk E' hi hP ⟨rfl, hI9⟩ hl9 hC hx off ne F N
      have hi2 : i < (powL m9 rows d 12 one r0).length := by rw [← FX2.1]; rwa [List.size_toArray] at hi
      obtain ⟨a9, d9, t1, t2, t3, t4, e9, y1, y2⟩ := FX3.get hi2
      rw [List.getElem?_toArray, e9] at hP
      cases hP
      k_steps
      refine' TurnEnd.intro ?F ?N (fun _ h9 => h9) off ⟨_, by k_mem⟩ (KI.next hI9 ?e)
      case F => k_asm
      case N => k_asm
      case e => rfl
    case dn =>
      rintro D ys nw h tk hl9 ⟨rfl, hI9⟩ off F N
      k_steps
      delta StopAt
      refine' eq_intsK (us := dv) (News.isList (by k_asm) ?m1) hI9 (News.isList (by k_asm) ?m2) id ?k5 ?_
      case m1 => exact .head _
      case m2 => exact .tail _ ma2
      case k5 => units_room
      k_whole
      k_steps
      refine ret_bool (decide_eq_true ?law) (hret ps2 _ _ _ (by k_asm) (cb_drop (by k_asm) ?sub) (fun hb => gb2 (gb' hb)))
      case law =>
        rw [range_getD _ _ (by rw [List.size_toArray, FX2.1]), ast]
        exact pow_law gm gd1 gd3 lr lo qo hr0 hr4
      case sub => exact List.forall_mem_cons.mpr ⟨by k_mem, fun p hp => (by have h9 := mnw p hp; k_mem)⟩
end

theorem lay92 : True := by
  k_with_none
  k_with "std" => ((case qFq7 => first | assumption | exact rfl); (case qKq7 => first | assumption | exact rfl); (case qDq7 => ((try simp +zetaDelta only [depth_mark, depth_under_make, depth_under_kw, depth_in1, depth_deeper]); (try dsimp only); omega)); (case qUq7 => ((try simp +zetaDelta only [units_under_make, units_in1, units_deeper, Around.mark_units]); (try dsimp only); omega)); (case q1q7 => k_asm); (case q2q7 => k_asm); (case q3q7 => k_asm); (case q4q7 => k_asm); (case q5q7 => k_asm))
  k_with "m.k_room" => ((show _ < 1000); (try simp +zetaDelta only [depth_mark, depth_under_make, depth_under_kw, depth_in1, depth_deeper]); (try dsimp only); omega)
  k_with "m.k_units" => ((show _ < 9900); (try simp +zetaDelta only [units_under_make, units_in1, units_deeper, Around.mark_units]); (try dsimp only); omega)
  k_with "m.k_enter" => (refine' code_defB ?k1q7 ?k2q7 ?k3q7 ?k4q7 ?k5q7 ?kAq7 ?kFq7 ?kKq7 ?k6q7 ?k7q7 ?k8q7 ?kPq7 ?k9q7 ?kDq7 ?kBq7 ?_ ?c2q7 ?c3q7 ?c4q7 ?c5q7; (case kAq7 => exact rfl); (case kFq7 => first | assumption | exact rfl); (case kKq7 => first | assumption | exact rfl); (case k1q7 => k_asm); (case k2q7 => k_asm); (case k3q7 => k_asm); (case k4q7 => k_asm); (case k5q7 => k_asm); (case k6q7 => k_is); (case k7q7 => k_is); (case k8q7 => k_room); (case kPq7 => first | exact BindsP.nil | exact BindsP.cons BindsP.nil | exact BindsP.cons (BindsP.cons BindsP.nil) | exact BindsP.cons (BindsP.cons (BindsP.cons BindsP.nil)) | exact BindsP.cons (BindsP.cons (BindsP.cons (BindsP.cons BindsP.nil))) | exact BindsP.cons (BindsP.cons (BindsP.cons (BindsP.cons (BindsP.cons BindsP.nil)))) | exact BindsP.cons (BindsP.cons (BindsP.cons (BindsP.cons (BindsP.cons (BindsP.cons BindsP.nil))))) | exact BindsP.cons (BindsP.cons (BindsP.cons (BindsP.cons (BindsP.cons (BindsP.cons (BindsP.cons BindsP.nil)))))) | exact BindsP.cons (BindsP.cons (BindsP.cons (BindsP.cons (BindsP.cons (BindsP.cons (BindsP.cons (BindsP.cons BindsP.nil)))))))); (case k9q7 => first | exact BindsTo.of_eq rfl | exact binds_K (by k_in) rfl (by k_is) rfl rfl rfl | fail "k_enter: no rule for these arguments"); (case kDq7 => kernel_rfl); (case c5q7 => decide); (case kBq7 => exact locs rfl); (case c2q7 => exact rfl); (case c3q7 => exact rfl); (case c4q7 => exact rfl); k_whole; intro g'q L'q h'q FG'q F'q N'q B'q X'q T'q; (try dsimp only [bindMap, List.length_cons, List.length_nil] at F'q ⊢); (try k_lift B'q); (first | refine let q'q : Flow → Shared → Prop := _; let e'q : Value → Shared → Prop := _; let o'q : Around := _; let v'q : Env := _; let a'q : Around := Around.deeper o'q v'q; let s'q : Shared := _; (?_ : wpAny _ a'q (execs _ v'q) q'q e'q s'q) | skip))
  k_with "m:CmpBack" => (unfold PySem.W.CmpBack; (try dsimp only))
  k_with "m:LenBack" => (unfold PySem.W.LenBack; (try dsimp only))
  k_with "m:StrBack" => (unfold PySem.W.StrBack; (try dsimp only))
  k_with "m:BoolBack" => (unfold PySem.W.BoolBack; (try dsimp only))
  k_with "mem" => first | exact List.Mem.head _ | assumption | (refine' List.Mem.tail _ ?_; k_extra "mem")
  k_with "m.k_ne" => (refine neN ?_; (try dsimp only); first | ((refine Nat.ne_of_lt ?_; (repeat (first | with_reducible exact Nat.lt_add_one _ | with_reducible refine Nat.lt_add_one_of_lt ?_)); done)) | ((refine Nat.ne_of_gt ?_; (repeat (first | with_reducible exact Nat.lt_add_one _ | with_reducible refine Nat.lt_add_one_of_lt ?_)); done)) | ((with_reducible refine Nat.ne_of_gt ?_; first | with_reducible assumption | exact And.left (by with_reducible assumption) | exact And.left (And.right (by with_reducible assumption)) | exact And.left (And.right (And.right (by with_reducible assumption))) | exact And.left (And.right (And.right (And.right (by with_reducible assumption)))) | exact And.left (And.right (And.right (And.right (And.right (by with_reducible assumption))))) | exact And.left (And.right (And.right (And.right (And.right (And.right (by with_reducible assumption)))))) | exact And.left (And.right (And.right (And.right (And.right (And.right (And.right (by with_reducible assumption))))))) | exact And.left (And.right (And.right (And.right (And.right (And.right (And.right (And.right (by with_reducible assumption)))))))) | exact And.left (And.right (And.right (And.right (And.right (And.right (And.right (And.right (And.right (by with_reducible assumption))))))))))) | omega)
  k_with "m.k_mem" => k_extra "mem"
  k_with "m:eval Call" => ((with_reducible show wpAny _ _ (eval (Expr.Call (Expr.Name _ _) _ [] _) _) _ _ _); k_dflt (refine Call_ ?_))
  k_with "m:eval Call Attribute" => ((with_reducible show wpAny _ _ (eval (Expr.Call (Expr.Attribute _ _ _) _ [] _) _) _ _ _); k_dflt (refine MethodCall_ ?_))
  k_with "m:newTuple" => (k_here; k_dflt (refine' kup_newTuple ?Fq7 ?Nq7 ?_ ?zq7; (case Fq7 => k_asm); (case Nq7 => k_asm); (case zq7 => kmk_size)); intro D'q h'q F'q N'q l1q; clear l1q; (try k_sweep))
  k_with "m.k_steps" => repeat' (first | ((fail_if_success (fail_if_success k_unfold)); first | ((with_reducible refine (?_ : wpAny _ _ _ _ _ _)); (try dsimp only)) | (k_unfold; (try dsimp only))) | ((fail_if_success (fail_if_success k_fold)); refine let q'q : _ → _ → Prop := _; let s'q : Shared := _; (?_ : wpAny _ _ _ q'q _ s'q)) | (k_end; kc_close) | walk1 | (dsimp only; walk1) | (show (_ : _ → _ → Prop) _ _; k_unfold; (try dsimp only)) | (dsimp only [List.cons_append, List.nil_append]; walk1) | (leave1; walk_say "STEP leave1"; (try dsimp only)) | fail "no step")
  k_with "m.units_room" => ((have hcL'q := cLine_is); (simp +zetaDelta only [units_in1, units_deeper, Around.mark_units, units_caller, units_under_make]); omega)
  k_with "m.k_in" => first | with_reducible assumption | exact Frag.In.keeps (by k_asm) (Fr.keep (by k_asm))
  k_with "m.omega" => first | with_reducible assumption | (with_reducible show (_ : Nat) ≤ _; first | exact Nat.le_of_ble_eq_true rfl | exact omA (by with_reducible assumption) rfl | exact omB (by with_reducible assumption) rfl | exact omC (by with_reducible assumption) rfl) | (with_reducible show (_ : Nat) < _; first | exact Nat.le_of_ble_eq_true rfl | exact omD (by with_reducible assumption) rfl | exact omE (by with_reducible assumption) rfl) | (with_reducible show (_ : Int) ≤ _; first | decide | exact oiA (by with_reducible assumption) rfl | exact oiE (by with_reducible assumption) rfl | exact oiC (by with_reducible assumption) rfl | exact oiH (by with_reducible assumption) rfl) | (with_reducible show (_ : Int) < _; first | decide | exact oiB (by with_reducible assumption) rfl | exact oiF (by with_reducible assumption) rfl | exact oiG (by with_reducible assumption) rfl | exact oiD (by with_reducible assumption) rfl) | (with_reducible show ¬ ((_ : Int) = _); exact oiI (by with_reducible assumption) rfl) | lia
  k_with "sx" => first | with_reducible exact EI.const | ((with_reducible show EI _ _ _ _ _ (Expr.Name _ _) _); refine' EI.name ?Fq7 ?mq7 ?aq7 ?bq7 ?cq7; (case Fq7 => k_asm); (case mq7 => exact rfl); (case aq7 => exact rfl); (case bq7 => exact rfl); (case cq7 => exact rfl)) | ((with_reducible refine' EI.add ?dq7 ?eq7); (case dq7 => k_extra "sx"); (case eq7 => k_extra "sx")) | ((with_reducible refine' EI.sub ?dq7 ?eq7); (case dq7 => k_extra "sx"); (case eq7 => k_extra "sx")) | ((with_reducible refine' EI.mul ?dq7 ?eq7 ?fq7); (case dq7 => k_extra "sx"); (case eq7 => k_extra "sx"); (case fq7 => mul_fits)) | ((with_reducible refine' EI.mod ?dq7 ?eq7 ?fq7); (case dq7 => k_extra "sx"); (case eq7 => k_extra "sx"); (case fq7 => first | with_reducible assumption | decide | omega))
  k_with "m:eval BinOp" => ((with_reducible show wpAny _ _ (eval (Expr.BinOp _ _ _ _) _) _ _ _); k_dflt (refine' EI.use ?dq7 ?_; (case dq7 => k_extra "sx"); k_whole); intro t'q tk'q)
  k_with "m:exec Assign" => (k_dflt ((first | (with_reducible show wpAny _ _ (exec (Stmt.Assign [Expr.Name _ _] (Expr.BinOp _ _ _ _) _) _) _ _ _) | (with_reducible show wpAny _ _ (exec (Stmt.Assign [Expr.Name _ _] (Expr.Constant (Const.int _) _ _) _) _) _ _ _)); refine' EI.store ?dq7 ?sq7 ?_; (case dq7 => k_extra "sx"); (case sq7 => first | exact rfl | with_unfolding_all rfl); k_whole); intro t'q tk'q)
  k_with "m:eval Compare" => ((with_reducible show wpAny _ _ (eval (Expr.Compare _ _ _ _) _) _ _ _); k_dflt ((first | with_reducible refine' EI.eq ?dq7 ?eq7 ?bq7 ?_ | with_reducible refine' EI.ne ?dq7 ?eq7 ?bq7 ?_); (case dq7 => k_extra "sx"); (case eq7 => k_extra "sx"); (case bq7 => exact rfl); k_whole); intro tk'q)
  k_with "m:isTrue Compare" => ((with_reducible show wpAny _ _ (PySem.isTrue (Expr.Compare _ _ _ _) _ _) _ _ _); k_dflt ((first | with_reducible refine' EI.isEq ?dq7 ?eq7 ?bq7 ?_ | with_reducible refine' EI.isNe ?dq7 ?eq7 ?bq7 ?_ | with_reducible refine' EI.isLt ?dq7 ?eq7 ?bq7 ?_ | with_reducible refine' EI.isGt ?dq7 ?eq7 ?bq7 ?_); (case dq7 => k_extra "sx"); (case eq7 => k_extra "sx"); (case bq7 => exact rfl); k_whole); intro tk'q)
  k_with "sv" => (refine' EV.name ?Fq7 ?mq7 ?aq7 ?bq7 ?cq7; (case Fq7 => k_asm); (case mq7 => exact rfl); (case aq7 => exact rfl); (case bq7 => exact rfl); (case cq7 => exact rfl))
  k_with "m:eval Call" => k_dflt (first | ((with_reducible show wpAny _ _ (eval (Expr.Call (Expr.Name _ _) [Expr.Name _ _] [] _) _) _ _ _); refine' callK_V ?Fq7 ?Xq7 ?Tq7 ?hnq7 ?hkq7 ?k1q7 ?k2q7 ?k3q7 ?d1q7 ?_; (case d1q7 => k_extra "sv"); (case Fq7 => k_asm); (case Xq7 => k_asm); (case Tq7 => k_asm); (case k1q7 => exact rfl); (case k2q7 => exact rfl); (case k3q7 => exact rfl); (case hnq7 => k_is); (case hkq7 => k_is); k_whole; intro  tk'q) | ((with_reducible show wpAny _ _ (eval (Expr.Call (Expr.Name _ _) [_] [] _) _) _ _ _); refine' callK_I ?Fq7 ?Xq7 ?Tq7 ?hnq7 ?hkq7 ?k1q7 ?k2q7 ?k3q7 ?d1q7 ?_; (case d1q7 => k_extra "sx"); (case Fq7 => k_asm); (case Xq7 => k_asm); (case Tq7 => k_asm); (case k1q7 => exact rfl); (case k2q7 => exact rfl); (case k3q7 => exact rfl); (case hnq7 => k_is); (case hkq7 => k_is); k_whole; intro t'q tk'q) | ((with_reducible show wpAny _ _ (eval (Expr.Call (Expr.Name _ _) [Expr.Name _ _, Expr.Name _ _] [] _) _) _ _ _); refine' callK_VV ?Fq7 ?Xq7 ?Tq7 ?hnq7 ?hkq7 ?k1q7 ?k2q7 ?k3q7 ?d1q7 ?d2q7 ?_; (case d1q7 => k_extra "sv"); (case d2q7 => k_extra "sv"); (case Fq7 => k_asm); (case Xq7 => k_asm); (case Tq7 => k_asm); (case k1q7 => exact rfl); (case k2q7 => exact rfl); (case k3q7 => exact rfl); (case hnq7 => k_is); (case hkq7 => k_is); k_whole; intro  tk'q) | ((with_reducible show wpAny _ _ (eval (Expr.Call (Expr.Name _ _) [Expr.Name _ _, _] [] _) _) _ _ _); refine' callK_VI ?Fq7 ?Xq7 ?Tq7 ?hnq7 ?hkq7 ?k1q7 ?k2q7 ?k3q7 ?d1q7 ?d2q7 ?_; (case d1q7 => k_extra "sv"); (case d2q7 => k_extra "sx"); (case Fq7 => k_asm); (case Xq7 => k_asm); (case Tq7 => k_asm); (case k1q7 => exact rfl); (case k2q7 => exact rfl); (case k3q7 => exact rfl); (case hnq7 => k_is); (case hkq7 => k_is); k_whole; intro t'q tk'q) | ((with_reducible show wpAny _ _ (eval (Expr.Call (Expr.Name _ _) [_, Expr.Name _ _] [] _) _) _ _ _); refine' callK_IV ?Fq7 ?Xq7 ?Tq7 ?hnq7 ?hkq7 ?k1q7 ?k2q7 ?k3q7 ?d1q7 ?d2q7 ?_; (case d1q7 => k_extra "sx"); (case d2q7 => k_extra "sv"); (case Fq7 => k_asm); (case Xq7 => k_asm); (case Tq7 => k_asm); (case k1q7 => exact rfl); (case k2q7 => exact rfl); (case k3q7 => exact rfl); (case hnq7 => k_is); (case hkq7 => k_is); k_whole; intro t'q tk'q) | ((with_reducible show wpAny _ _ (eval (Expr.Call (Expr.Name _ _) [_, _] [] _) _) _ _ _); refine' callK_II ?Fq7 ?Xq7 ?Tq7 ?hnq7 ?hkq7 ?k1q7 ?k2q7 ?k3q7 ?d1q7 ?d2q7 ?_; (case d1q7 => k_extra "sx"); (case d2q7 => k_extra "sx"); (case Fq7 => k_asm); (case Xq7 => k_asm); (case Tq7 => k_asm); (case k1q7 => exact rfl); (case k2q7 => exact rfl); (case k3q7 => exact rfl); (case hnq7 => k_is); (case hkq7 => k_is); k_whole; intro t'q t'q tk'q) | ((with_reducible show wpAny _ _ (eval (Expr.Call (Expr.Name _ _) [Expr.Name _ _, Expr.Name _ _, Expr.Name _ _] [] _) _) _ _ _); refine' callK_VVV ?Fq7 ?Xq7 ?Tq7 ?hnq7 ?hkq7 ?k1q7 ?k2q7 ?k3q7 ?d1q7 ?d2q7 ?d3q7 ?_; (case d1q7 => k_extra "sv"); (case d2q7 => k_extra "sv"); (case d3q7 => k_extra "sv"); (case Fq7 => k_asm); (case Xq7 => k_asm); (case Tq7 => k_asm); (case k1q7 => exact rfl); (case k2q7 => exact rfl); (case k3q7 => exact rfl); (case hnq7 => k_is); (case hkq7 => k_is); k_whole; intro  tk'q) | ((with_reducible show wpAny _ _ (eval (Expr.Call (Expr.Name _ _) [Expr.Name _ _, Expr.Name _ _, _] [] _) _) _ _ _); refine' callK_VVI ?Fq7 ?Xq7 ?Tq7 ?hnq7 ?hkq7 ?k1q7 ?k2q7 ?k3q7 ?d1q7 ?d2q7 ?d3q7 ?_; (case d1q7 => k_extra "sv"); (case d2q7 => k_extra "sv"); (case d3q7 => k_extra "sx"); (case Fq7 => k_asm); (case Xq7 => k_asm); (case Tq7 => k_asm); (case k1q7 => exact rfl); (case k2q7 => exact rfl); (case k3q7 => exact rfl); (case hnq7 => k_is); (case hkq7 => k_is); k_whole; intro t'q tk'q) | ((with_reducible show wpAny _ _ (eval (Expr.Call (Expr.Name _ _) [Expr.Name _ _, _, Expr.Name _ _] [] _) _) _ _ _); refine' callK_VIV ?Fq7 ?Xq7 ?Tq7 ?hnq7 ?hkq7 ?k1q7 ?k2q7 ?k3q7 ?d1q7 ?d2q7 ?d3q7 ?_; (case d1q7 => k_extra "sv"); (case d2q7 => k_extra "sx"); (case d3q7 => k_extra "sv"); (case Fq7 => k_asm); (case Xq7 => k_asm); (case Tq7 => k_asm); (case k1q7 => exact rfl); (case k2q7 => exact rfl); (case k3q7 => exact rfl); (case hnq7 => k_is); (case hkq7 => k_is); k_whole; intro t'q tk'q) | ((with_reducible show wpAny _ _ (eval (Expr.Call (Expr.Name _ _) [Expr.Name _ _, _, _] [] _) _) _ _ _); refine' callK_VII ?Fq7 ?Xq7 ?Tq7 ?hnq7 ?hkq7 ?k1q7 ?k2q7 ?k3q7 ?d1q7 ?d2q7 ?d3q7 ?_; (case d1q7 => k_extra "sv"); (case d2q7 => k_extra "sx"); (case d3q7 => k_extra "sx"); (case Fq7 => k_asm); (case Xq7 => k_asm); (case Tq7 => k_asm); (case k1q7 => exact rfl); (case k2q7 => exact rfl); (case k3q7 => exact rfl); (case hnq7 => k_is); (case hkq7 => k_is); k_whole; intro t'q t'q tk'q) | ((with_reducible show wpAny _ _ (eval (Expr.Call (Expr.Name _ _) [Expr.Name _ _, Expr.Name _ _, Expr.Name _ _, Expr.Name _ _] [] _) _) _ _ _); refine' callK_VVVV ?Fq7 ?Xq7 ?Tq7 ?hnq7 ?hkq7 ?k1q7 ?k2q7 ?k3q7 ?d1q7 ?d2q7 ?d3q7 ?d4q7 ?_; (case d1q7 => k_extra "sv"); (case d2q7 => k_extra "sv"); (case d3q7 => k_extra "sv"); (case d4q7 => k_extra "sv"); (case Fq7 => k_asm); (case Xq7 => k_asm); (case Tq7 => k_asm); (case k1q7 => exact rfl); (case k2q7 => exact rfl); (case k3q7 => exact rfl); (case hnq7 => k_is); (case hkq7 => k_is); k_whole; intro  tk'q))
  k_with "sb" => first | ((with_reducible first | refine' EB.eq ?dq7 ?eq7 ?bq7 | refine' EB.ne ?dq7 ?eq7 ?bq7 | refine' EB.lt ?dq7 ?eq7 ?bq7 | refine' EB.le ?dq7 ?eq7 ?bq7 | refine' EB.gt ?dq7 ?eq7 ?bq7); (case dq7 => k_extra "sx"); (case eq7 => k_extra "sx"); (case bq7 => exact rfl)) | ((with_reducible refine' EB.one ?dq7); (case dq7 => k_extra "sb")) | ((with_reducible refine' EB.or ?dq7 ?eq7); (case dq7 => k_extra "sb"); (case eq7 => intro _; k_extra "sb")) | ((with_reducible refine' EB.and ?dq7 ?eq7); (case dq7 => k_extra "sb"); (case eq7 => intro _; k_extra "sb"))
  k_with "m:eval BoolOp" => (k_dflt (refine' EB.use ?dq7 ?_; (case dq7 => k_extra "sb"); k_whole); intro tk'q)
  k_with "m:eval Compare" => (k_dflt (refine' EB.use ?dq7 ?_; (case dq7 => k_extra "sb"); k_whole); intro tk'q)
  k_with "m:call ref" => ((with_reducible show wpAny _ _ (call (Value.ref 562) [Value.ref _, Value.int _ _] _) _ _ _); k_dflt (refine' law_at_c ?qFq7 ?qKq7 ?qDq7 ?qUq7 ?q1q7 ?q2q7 ?q3q7 ?q4q7 ?q5q7 ?rlq7 ?riq7 ?rnq7 ?r0q7 ?_; (k_extra "std"); (case rlq7 => k_asm); (case riq7 => k_asm); (case rnq7 => (first | assumption | omega)); (case r0q7 => (first | assumption | omega | decide)); k_whole; intro t'q h'q tk'q F'q N'q b1q b2q; (try dsimp only); (try k_sweep)))
  k_with "m:storeName" => (k_here; k_dflt (refine' storeM ?Fq7 ?Nq7 ?_ ?aq7 ?bq7; (case Fq7 => k_asm); (case Nq7 => k_asm); (case aq7 => rfl); (case bq7 => rfl); k_whole; intro m'q n'q h'q F'q N'q; (try k_sweep)))
  trivial
-- piece law
noncomputable def StopHere (P : Prop) : Prop := P
theorem StopHere.go {P : Prop} (h : P) : StopHere P := h
theorem StopHere.stop {P : Prop} (h : StopHere P) : P := h
set_option maxRecDepth 100000 in
set_option maxHeartbeats 8000000 in
theorem tabs9 {w : World} {h : Heap} (X : (hd.heap_1 w.params).In h) (T : ∀ P ∈ [59, 267, 609], h.get? P = some (tabObj #[])) : TabsAt [(63, 59), (613, 609), (271, 267)] h :=
  List.forall_mem_cons.mpr ⟨⟨codeHd_of_K (c := 63) (P := 59) X (by kernel_rfl), T 59 (.head _)⟩, List.forall_mem_cons.mpr ⟨⟨codeHd_of_K (c := 613) (P := 609) X (by kernel_rfl), T 609 (.tail _ (.tail _ (.head _)))⟩, List.forall_mem_cons.mpr ⟨⟨codeHd_of_K (c := 271) (P := 267) X (by kernel_rfl), T 267 (.tail _ (.head _))⟩, List.forall_mem_nil _⟩⟩⟩
theorem turn0_get {g g' : Heap} (T : KtsTurn [] g g') {b : Addr} {o : Obj} (e : g.get? b = some o) : g'.get? b = some o := T.other b o e (fun h => nomatch h)
theorem turn0_fr {g g' h : Heap} {L : Addr} {m : Str → Option Value} (T : KtsTurn [] g g') (F : Fr g' L h m) : Fr g L h m := ⟨F.ns, fun b o e => F.keep b o (turn0_get T e), T.size ▸ F.above⟩
theorem turn0_news {g g' h : Heap} {L : Addr} {news : List (Addr × Obj)} (T : KtsTurn [] g g') (N : News g' L h news) : News g L h news := fun p hp => ⟨(N p hp).1, (N p hp).2.1, by
  cases e : g.get? p.1 with
  | none => rfl
  | some o => exact absurd (turn0_get T e) (by rw [(N p hp).2.2]; simp)⟩
theorem postG {M : Model} {A : Around} {cd : Code} {s s₁ : Shared} {cw : ClaimW} {cl : Str → Option Addr} {mean : ExcName → Option Value} {args : List WData} {tabs : List (Addr × Addr)} (hT : TabsAt tabs s₁.heap) (hr : ∀ a x, cw.raises a x = false)
    (h : codeAny M A cd (fun r s' => GoodW cw cl mean args { s₁ with heap := ghostOf s₁.heap tabs } r { s' with gens := #[] } ∧ GrownAll tabs s'.heap ∧ AllBare s'.gens) s) : codeAny M A cd (GoodWG cw cl mean args s₁) s := by
  refine codeAny_mono h ?_
  rintro r s' ⟨⟨hc, hk, hos, -⟩, hgr, hb⟩
  have inTab : ∀ b o, b ∈ tabs.map (·.2) → s₁.heap.get? b = some o → isCodeTable s₁.heap b ∧ o = tabObj #[] ∧ ∃ ps, s'.heap.get? b = some (tabObj ps) := by
    intro b o hm e
    rcases List.mem_map.mp hm with ⟨q, hq, rfl⟩
    obtain ⟨c1, c2⟩ := hT q hq
    exact ⟨(c1.tab c2).isCodeTable, Option.some.inj (e.symm.trans c2), hgr.get q hq⟩
  have offTab : ∀ b o, ¬ b ∈ tabs.map (·.2) → s₁.heap.get? b = some o → s'.heap.get? b = some o := fun b o hm e => hk b o (ghost_ne e hm)
  refine ⟨?_, ⟨?_, ?_⟩, hos, hb⟩
  · rcases hc with ⟨v, d, as, r1, r2, r3, r4, r5⟩ | ⟨e, ob, x, -, -, -, r4, -⟩
    · refine .inl ⟨v, d, as, r1, r2, r3, r4, fun q => ⟨(r5 q).1, fun a ha => ?_⟩⟩
      rcases Option.eq_none_or_eq_some (s₁.heap.get? a) with e | ⟨o, e⟩
      · exact e
      · exfalso
        rcases Classical.em (a ∈ tabs.map (·.2)) with hm | hm
        · obtain ⟨-, -, ps, hP⟩ := inTab a o hm e
          exact readsW_apart hP rfl r3 ha
        · have := (r5 q).2 a ha
          rw [show (ghostOf s₁.heap tabs).get? a = some o from ghost_ne e hm] at this
          exact nomatch this
    · rw [hr] at r4; exact nomatch r4
  · intro b o e
    rcases Classical.em (b ∈ tabs.map (·.2)) with hm | hm
    · obtain ⟨ht, rfl, ps, hP⟩ := inTab b o hm e
      exact .inr (.inl ⟨ht, rfl, #[], ps, rfl, by simpa using hP⟩)
    · exact .inl (offTab b o hm e)
  · intro b o e
    rcases Classical.em (b ∈ tabs.map (·.2)) with hm | hm
    · obtain ⟨-, -, ps, hP⟩ := inTab b o hm e
      exact ⟨_, hP⟩
    · exact ⟨o, offTab b o hm e⟩
noncomputable def primeV : List Value → Prop := fun vs => vs.length = 8 ∧ ∀ i, i < 8 → ∃ p t, vs[i]? = some (.int p t) ∧ primeI p
theorem primeV_of {t0 t1 t2 t3 t4 t5 t6 t7 : Tok} : primeV [.int 7 t0, .int 19 t1, .int 31 t2, .int 43 t3, .int 67 t4, .int 79 t5, .int 103 t6, .int 127 t7] := ⟨rfl, fun i hi => by
  have : i = 0 ∨ i = 1 ∨ i = 2 ∨ i = 3 ∨ i = 4 ∨ i = 5 ∨ i = 6 ∨ i = 7 := by omega
  rcases this with rfl | rfl | rfl | rfl | rfl | rfl | rfl | rfl <;> exact ⟨_, _, rfl, by decide, by decide⟩⟩
section
variable {prog : Program} {w : World} {A : Around} {E : Value → Shared → Prop} {s : Shared} {h₀ : Heap} {L : Addr}
theorem prime_item {news : List (Addr × Obj)} {vs : List Value} {value slice : PySem.Expr} {t : Addr} {a : Int} {cap : Nat} {u : Tok} {Q : Value → Shared → Prop}
    (N : News h₀ L s.heap news) (hm : (t, W.listOf vs.toArray cap) ∈ news) (I : primeV vs) (h : ∀ p t, primeI p → Q (.int p t) s)
    (hs : ∀ k, subscripted slice false (.ref t) (.int k u) = operate [.ref t, .int k u] (getItem (.ref t) (.int k u))) :
    wpAny (model prog w) A (subscriptTail value slice (.ref t) (.int (a.fmod 8) u)) Q E s := by
  refine kba_turn (value' := .Name (Str.ofString "x") default) (fun _ => rfl) ?_
  have h1 := Int.fmod_nonneg_of_pos a (show (0 : Int) < 8 by decide)
  have h2 := Int.fmod_lt_of_pos a (show (0 : Int) < 8 by decide)
  generalize a.fmod 8 = k at *
  obtain ⟨p, t9, e, hp⟩ := I.2 k.toNat (by omega)
  exact kim_list N hm rfl rfl h1 (by omega) e (h _ _ hp) (hs k) (fun _ => rfl)
end
section
variable {w : World} {p : Program} {loose : List Str} {mean : ExcName → Option Value} {mg mb : Str → Option Value} {dp un : Nat} {gd : Option (List Code)} {A₀ : Around} {env : Env} {outer : List Env} {base h₀ : Heap} {L : Addr} {m : Str → Option Value} {s : Shared} {Q E : Value → Shared → Prop} {news : List (Addr × Obj)}
variable {cn : Str} {cs : Scope} {a : Addr} {ccd : Value} {g₀ : Heap}
set_option maxRecDepth 100000 in
set_option maxHeartbeats 8000000 in
theorem great_0 {l : Addr} {vs : List Value} {ns : List Int} {p' : Int} {tp : Tok}
    (hf : (envOf cn cs L a ccd).frame = some L) (hke : (envOf cn cs L a ccd).scope.kind = .function) (hdp : dp ≤ 700) (hun : un ≤ 7000)
    (B : Below A₀ h₀ [] h₀) (F : Fr h₀ L s.heap m) (X : (hd.heap_1 w.params).In h₀) (N : News h₀ L s.heap news) (T : Top p loose mean mg mb h₀)
    (hl : h₀.IsList l vs.toArray) (hi : IntsAre vs ns) (hns : ns.length ≤ 63) (hp : primeI p')
    (hret : ∀ (h' : Heap) (tk' : Nat), Fr h₀ L h' m → News h₀ L h' news → Q (.bool true) { s with heap := h', toks := tk' }) :
    wpAny (model PR w) (ar dp un gd (envOf cn cs L a ccd) []) (call (.ref 583) [.ref l, .int p' tp]) Q E s :=
  great_c (outer := []) hf hke hdp hun B F X N T X T ktsDicts_nil KtsTurn.refl hl hi hns hp fun _ _ _ T' F' N' _ _ _ _ => hret _ _ (turn0_fr T' F') (turn0_news T' N')
theorem news3 {L : Addr} {h : Heap} {l : List (Addr × Obj)} {x y z : Addr × Obj} (N : News h₀ L h l) (hx : x ∈ l) (hy : y ∈ l) (hz : z ∈ l) : News h₀ L h [x, y, z] := fun p hp => by
  rcases List.mem_cons.mp hp with rfl | hp
  · exact N _ hx
  · rcases List.mem_cons.mp hp with rfl | hp
    · exact N _ hy
    · rcases List.mem_cons.mp hp with rfl | hp
      · exact N _ hz
      · nomatch hp
theorem law_in {α : Type} {M : Model} {x : Sem α} {Q : α → Shared → Prop} {E : Value → Shared → Prop} {s : Shared} (h : ∀ dp un gd, dp ≤ 450 → un ≤ 4500 → wpAny M (ar dp un gd env []) x Q E s) : wpAny M (callerA.deeper env) x Q E s :=
  h _ _ _ (Nat.le_of_ble_eq_true rfl) (Nat.le_of_ble_eq_true rfl)
end
local macro_rules | `(tactic| kn_posts) => `(tactic| refine postG $(Lean.mkIdent `hT9) (fun _ _ => rfl) ?_)
local macro_rules | `(tactic| km_lay $T:ident $hmg:ident $ho:ident $hd:ident $cd:ident) => `(tactic| (have $(Lean.mkIdent `hT9):ident := tabs9 (by with_reducible assumption) $(Lean.mkIdent `hT8):ident))
theorem lay93 : True := by
  k_with "m:callWith ref" => (k_here; (with_reducible show wpAny _ _ (callWith _ (Value.ref _) _ (backTo _ (starEach (_ :: _) _)) []) _ _ _); k_dflt (refine' callWith_K ?k1q7 ?k2q7 ?_; (case k1q7 => k_asm); (case k2q7 => k_is); k_whole))
  k_with "m:subscriptTail Call Name nil nil BinOp ref int" => ((with_reducible show wpAny _ _ (subscriptTail (Expr.Call _ _ _ _) _ (Value.ref _) (Value.int _ _)) _ _ _); k_here; (with_reducible refine' prime_item ?Nq7 ?mq7 ?vq7 ?_ ?hsq7); (case Nq7 => k_asm); (case mq7 => k_mem); (case vq7 => exact primeV_of); (case hsq7 => intro _; with_unfolding_all rfl); intro p'q tpq hp'q; (have hp7q := hp'q.bd.1); (have hp8q := hp'q.bd.2))
  k_with "m:call ref" => ((with_reducible show wpAny _ _ (call (Value.ref 562) [Value.ref _, Value.int _ _] _) _ _ _); k_dflt (refine' law_at_c ?qFq7 ?qKq7 ?qDq7 ?qUq7 ?q1q7 ?q2q7 ?q3q7 ?q4q7 ?q5q7 ?rlq7 ?riq7 ?rnq7 ?r0q7 ?_; (k_extra "std"); (case rlq7 => k_asm); (case riq7 => k_asm); (case rnq7 => (first | assumption | omega)); (case r0q7 => (first | assumption | omega | decide)); k_whole; intro t'q h'q tk'q F'q N'q b1q b2q; (try dsimp only); (try k_sweep)))
  k_with "m:call ref" => ((with_reducible show wpAny _ _ (call (Value.ref 583) [Value.ref _, Value.int _ _] _) _ _ _); k_dflt (refine' great_0 ?qFq7 ?qKq7 ?qDq7 ?qUq7 ?q1q7 ?q2q7 ?q3q7 ?q4q7 ?q5q7 ?rlq7 ?riq7 ?rnq7 ?rpq7 ?_; (k_extra "std"); (case rlq7 => k_asm); (case riq7 => k_asm); (case rnq7 => (first | assumption | omega)); (case rpq7 => assumption); k_whole; intro h'q tk'q F'q N'q; (try dsimp only); (try k_sweep)))
  k_with "m:call ref" => ((with_reducible show wpAny _ _ (call (Value.ref 597) [Value.ref _] _) _ _ _); k_dflt (refine' equation_c ?qFq7 ?qKq7 ?qDq7 ?qUq7 ?q1q7 ?q2q7 ?q3q7 ?q4q7 ?q5q7 ?rlq7 ?riq7 ?rnq7 ?_; (k_extra "std"); (case rlq7 => k_asm); (case riq7 => k_asm); (case rnq7 => (first | assumption | omega)); k_whole; intro h'q tk'q F'q N'q; (try dsimp only); (try k_sweep)))
  k_with "m:call ref" => ((with_reducible show wpAny _ _ (call (Value.ref 633) [Value.ref _] _) _ _ _); k_dflt (refine' inverse_c ?qFq7 ?qKq7 ?qDq7 ?qUq7 ?q1q7 ?q2q7 ?q3q7 ?q4q7 ?q5q7 ?rlq7 ?riq7 ?rnq7 ?_; (k_extra "std"); (case rlq7 => k_asm); (case riq7 => k_asm); (case rnq7 => (first | assumption | omega)); k_whole; intro h'q tk'q F'q N'q; (try dsimp only); (try k_sweep)))
  k_with "m:call ref" => ((with_reducible show wpAny _ _ (call (Value.ref 607) [Value.ref _] _) _ _ _); k_dflt (refine' power_c (ps := #[]) (news := [(59, tabObj #[]), (609, tabObj #[])]) ?qFq7 ?qKq7 ?qDq7 ?qUq7 ?q1q7 ?q2q7 ?q3q7 ?q4q7 ?q5q7 ?rlq7 ?riq7 ?rnq7 ?rCq7 ?rEq7 ?_; (case qFq7 => first | assumption | exact rfl); (case qKq7 => first | assumption | exact rfl); (case qDq7 => omega); (case qUq7 => omega); (case q1q7 => k_asm); (case q2q7 => k_asm); (case q3q7 => k_asm); (case q4q7 => (refine' news3 ?n0q7 ?n1q7 ?n2q7 ?n3q7; (case n0q7 => k_asm); (case n1q7 => k_mem); (case n2q7 => k_mem); (case n3q7 => k_mem))); (case q5q7 => k_asm); (case rlq7 => k_asm); (case riq7 => k_asm); (case rnq7 => first | assumption | omega); (case rCq7 => exact CodeW.mk (by assumption)); (case rEq7 => decide); k_whole; intro ps'q h'q tk'q gn'q F'q N'q gb'q; (try dsimp only); (try k_sweep)))
  k_with "m:call ref" => ((with_reducible show wpAny _ _ (call (Value.ref 626) [Value.ref _, Value.int _ _] _) _ _ _); k_dflt (refine' fields_c (news := [(267, tabObj #[])]) ?qFq7 ?qKq7 ?qDq7 ?qUq7 ?q1q7 ?q2q7 ?q3q7 ?q4q7 ?q5q7 ?rlq7 ?riq7 ?rnq7 ?rCq7 ?rDq7 ?rEq7 ?rFq7 ?b1q7 ?b2q7 ?_; (case qFq7 => first | assumption | exact rfl); (case qKq7 => first | assumption | exact rfl); (case qDq7 => omega); (case qUq7 => omega); (case q1q7 => k_asm); (case q2q7 => k_asm); (case q3q7 => k_asm); (case q4q7 => (refine' news3 ?n0q7 ?n1q7 ?n2q7 ?n3q7; (case n0q7 => k_asm); (case n1q7 => k_mem); (case n2q7 => k_mem); (case n3q7 => k_mem))); (case q5q7 => k_asm); (case rlq7 => k_asm); (case riq7 => k_asm); (case rnq7 => first | assumption | omega); (case rCq7 => exact CodeW.mk (by assumption)); (case rDq7 => exact CodeW.mk (by assumption)); (case rEq7 => decide); (case rFq7 => decide); (case b1q7 => assumption); (case b2q7 => assumption); k_whole; intro ps'q tb'q h'q tk'q gn'q F'q N'q gb'q; (try dsimp only); (try k_sweep)))
  trivial
set_option maxRecDepth 100000 in
set_option maxHeartbeats 8000000 in
theorem law_try : PySem.Challenge.rw_lj0027_01.Holds := Mine.hd ⟨left_fast (by kernel_rfl) (fun _ => by kernel_rfl) (fun _ => by kernel_rfl) run_A run_B run_C, by
  k_go0
  (all_goals try k_fold)
  refine' law_in ?_
  intro dp un gd hdp hun
  repeat' (first | (k_unfold; (try dsimp only)) | (k_end; kc_close) | walk1 | (dsimp only; walk1) | (leave1; walk_say "STEP leave1"; (try dsimp only)) | fail "no step")
  all_goals first
    | exact AllBare.of_eq (by assumption)
    | exact (by assumption : AllBare _ → AllBare _) (AllBare.of_eq (by assumption))
    | (kc_bool; refine goodW_bool (by assumption) rfl (raisesW_false ?_) ?_; (· wrow_none_raised); (· kc_post))⟩


end Mine
theorem PySem.Challenge.cw_lj0027_01_holds : PySem.Challenge.rw_lj0027_01.Holds :=
  Mine.law_try
