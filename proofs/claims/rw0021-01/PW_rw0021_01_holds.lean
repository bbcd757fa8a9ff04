import PyProof.Rows.All
import Wide.All
import OpenK.AllK
import Wide.FinOn
import PyProof.Rows.WhileGen
import PyProof.StrLawsLines
import PySem.Challenge.RW_rw0021_01
set_option Elab.async false
set_option maxRecDepth 100000
set_option maxHeartbeats 8000000
section H1
open PySem PySem.W PyProof.Rows PySem.Calls
set_option Elab.async false
set_option maxRecDepth 100000
namespace Mine
/-- the top's run over the tree of objects, in the fast words -/
noncomputable def runQ (p : Program) (w : World) (n₀ : Nat) (ann : Option Value) : Nat → SharedT → Thread → Option SharedT
  | 0, _, _ => none
  | n + 1, s, t => match through t with
    | true => some s
    | false => match PySem.W.Fast.tw6613529449190102663 n₀ ann t with
      | false => none
      | true => match PySem.W.Fast.tw10156331382660048174 (PySem.W.Fast.tw11892475500146522536 PySem.W.Fast.tw14364793385576792824) p w s t with
        | some (s', t') => runQ p w n₀ ann n s' t'
        | none => none
theorem runQ_of {p : Program} {w : World} {n₀ : Nat} {ann : Option Value} : ∀ {n : Nat} {s s' : SharedT} {t : Thread}, runQ p w n₀ ann n s t = some s' → topRun treeTable p w n₀ ann n s.abs t = some s'.abs
  | 0, _, _, _, h => by cases h
  | n + 1, s, s', t, h => by
    unfold runQ at h
    rw [← PySem.W.Fast.te6613529449190102663, ← PySem.W.Fast.te10156331382660048174, ← PySem.W.Fast.te11892475500146522536, ← PySem.W.Fast.te14364793385576792824] at h
    unfold topRun
    cases he : through t with
    | true => rw [he] at h; cases h; rfl
    | false =>
      rw [he] at h
      cases hk : stepOk n₀ ann t with
      | false => rw [hk] at h; cases h
      | true =>
        rw [hk] at h
        cases hs : stepT (denote treeTable) p w s t with
        | none => rw [hs] at h; cases h
        | some r => obtain ⟨s₂, t₂⟩ := r; rw [hs] at h; rw [stepT_spec hs]; exact runQ_of h
/-- the opening's objects as a tree -/
def bt (l : List Obj) : Nat → Nat → Nat → BT
  | 0, _, _ => .nil
  | f + 1, a, b => match l[b]? with
    | some o => .node o (bt l f (2 * a) (a + b)) (bt l f (2 * a) (2 * a + b))
    | none => .nil
noncomputable def s0T (w : World) (n : Nat) (os : OsState) : SharedT := ⟨bt (boot_heap w.params).objs.toList 9 1 0, n, (boot_heap w.params).life, Array.mk [], boot_drawn, boot_toks, os⟩
theorem left_of_run {p q : Program} {loose : List Str} {Xt : Shared → Bool} {α : Type} {Yf : Shared → α} {Ya : World → α} {N : Nat} {m₀ : Nat} {ann : Option Value} {M : Nat}
    (open_ : ∀ w : World, (fencedOpening treeTable p w N).map (fun s => (s.heap, s.gens, s.drawn, s.toks)) = some (boot_heap w.params, Array.mk [], boot_drawn, boot_toks))
    (size : ∀ w : World, ((boot_heap w.params).isNs mainGlobals && (Array.mk ([] : List GenState)).size == 0, (boot_heap w.params).objs.size, (boot_heap w.params).nsMap mainGlobals "__annotations__") = (true, m₀, ann))
    (tree : ∀ w os, (s0T w m₀ os).abs = ⟨boot_heap w.params, Array.mk [], boot_drawn, boot_toks, os⟩)
    (run : ∀ (w : World) (os : OsState), (runQ p w m₀ ann M (s0T w m₀ os) (topStub p)).map (fun sT => let s := sT.abs
      ((staticsOk (importedModules p.main.body) (boot_heap w.params) s.heap && namesBound p s.heap && gensDone s && laidKept (boot_heap w.params) s.heap), PySem.W.Fast.tw4187177175401517315 q loose (importedModules p.main.body) Xt true s, Yf s)) = some (true, openGood q loose, Ya w)) (le : Nat.ble M N = true) : LeftO p q loose Xt Yf Ya N true := fun w => by
  obtain ⟨⟨h, gs, d, k, os⟩, e, e'⟩ := Option.map_eq_some_iff.mp (open_ w)
  obtain ⟨rfl, rfl, rfl, rfl⟩ : h = boot_heap w.params ∧ gs = Array.mk [] ∧ d = boot_drawn ∧ k = boot_toks := by simpa using e'
  obtain ⟨z1, z2, z3⟩ : _ ∧ _ ∧ _ := by simpa only [Prod.mk.injEq] using size w
  obtain ⟨sT, hr, hl⟩ := Option.map_eq_some_iff.mp (run w os)
  rw [← PySem.W.Fast.te4187177175401517315] at hl
  obtain ⟨l1, l2, l3⟩ : _ ∧ _ ∧ _ := by simpa only [Prod.mk.injEq] using hl
  have r0 := runQ_of hr
  rw [tree] at r0
  have r := topRun_mono (N - M) _ _ _ _ r0
  rw [show M + (N - M) = N by have := Nat.le_of_ble_eq_true le; omega] at r
  have t : topFrom treeTable p w N ⟨boot_heap w.params, Array.mk [], boot_drawn, boot_toks, os⟩ = some sT.abs := by
    unfold topFrom
    dsimp only
    rw [z1, z2, z3, r]
    show (match staticsOk (importedModules p.main.body) (boot_heap w.params) sT.abs.heap && namesBound p sT.abs.heap && gensDone sT.abs && laidKept (boot_heap w.params) sT.abs.heap with | true => _ | false => _) = _
    rw [l1]
  unfold openEnds
  rw [e]
  show (topFrom treeTable p w N _).map _ = _
  rw [t]
  exact congrArg some (Prod.ext l2 l3)
end Mine
end H1
section H2
open PySem PySem.W PyProof.Rows PySem.Calls
set_option Elab.async false
set_option maxRecDepth 100000
set_option maxHeartbeats 8000000
namespace Mine
noncomputable abbrev PR0 : Program := PySem.Challenge.rw_rw0021_01.row.prog
theorem h_boot : ∀ w : World, (importEnds treeTable (opening PR0) w 600 (start (opening PR0)).1 (start (opening PR0)).2).map (fun s => (s.heap, s.gens, s.drawn, s.toks)) = some (boot_heap w.params, Array.mk ([] : List GenState), boot_drawn, boot_toks) := fun w => by kernel_rfl
theorem h_fence : ∀ s, fenceModules? PR0 s = some s := fun s => by kernel_rfl
theorem open_of {p : Program} {N : Nat} {H : Params → Heap} {gs : Array GenState} {d : Drawn} {k : Nat} (b : ∀ w : World, (importEnds treeTable (opening p) w 600 (start (opening p)).1 (start (opening p)).2).map (fun s => (s.heap, s.gens, s.drawn, s.toks)) = some (H w.params, gs, d, k)) (hN : Nat.ble 600 N = true) (f : ∀ s, fenceModules? p s = some s) :
    ∀ w : World, (fencedOpening treeTable p w N).map (fun s => (s.heap, s.gens, s.drawn, s.toks)) = some (H w.params, gs, d, k) := fun w => by
  obtain ⟨s, hs, hv⟩ := Option.map_eq_some_iff.mp (b w)
  have m := importEnds_mono (N - 600) _ _ _ _ hs
  rw [show 600 + (N - 600) = N by have := Nat.le_of_ble_eq_true hN; omega] at m
  unfold fencedOpening
  rw [m]
  show ((fenceModules? p s)).map _ = _
  rw [f s]
  exact congrArg some hv
theorem h_open : ∀ w : World, (fencedOpening treeTable PR0 w 36170).map (fun s => (s.heap, s.gens, s.drawn, s.toks)) = some (boot_heap w.params, Array.mk ([] : List GenState), boot_drawn, boot_toks) := open_of h_boot (by decide +kernel) h_fence
theorem h_objs : ∀ w : World, (boot_heap w.params).objs.size = 11 := fun w => by kernel_rfl
theorem h_ns : ∀ w : World, ((boot_heap w.params).isNs mainGlobals && (Array.mk ([] : List GenState)).size == 0) = true := fun w => by kernel_rfl
theorem h_tree : ∀ w os, (s0T w 11 os).abs = ⟨boot_heap w.params, Array.mk [], boot_drawn, boot_toks, os⟩ := fun w os => by kernel_rfl
end Mine
end H2
section H3
open PySem PySem.W PyProof.Rows PySem.Calls
set_option Elab.async false
set_option maxRecDepth 100000
set_option maxHeartbeats 8000000
namespace Mine
theorem twin1 : (PySem.Challenge.pw_rw0021_01.main.body.length == 0 || true) = true := by k_qdec
noncomputable abbrev PW : Program := PySem.W.Fast.tw16564327084096338402
theorem PW_eq : PR0 = PW := PySem.W.Fast.te16564327084096338402
end Mine
end H3
section H5
open PySem PySem.W PyProof.Rows PySem.Calls
set_option Elab.async false
set_option maxRecDepth 100000
set_option maxHeartbeats 8000000
namespace Mine
/-- the segment's run over the tree of objects, in the fast words -/
noncomputable def segQ (p : Program) (w : World) (n₀ : Nat) (ann : Option Value) : Nat → SharedT → Thread → Option (Flow × SharedT × Code × Pos)
  | 0, _, _ => none
  | n + 1, s, t => match endAt 1 t with
    | some f => some (f, s, t.code, t.pos)
    | none => match PySem.W.Fast.tw6613529449190102663 n₀ ann t with
      | false => none
      | true => match PySem.W.Fast.tw10156331382660048174 (PySem.W.Fast.tw11892475500146522536 PySem.W.Fast.tw14364793385576792824) p w s t with
        | some (s', t') => segQ p w n₀ ann n s' t'
        | none => none
theorem segQ_of {p : Program} {w : World} {n₀ : Nat} {ann : Option Value} : ∀ {n : Nat} {s s' : SharedT} {t : Thread} {f : Flow} {c : Code} {q : Pos}, segQ p w n₀ ann n s t = some (f, s', c, q) → segRun treeTable p w n₀ ann 1 n s.abs t = some (f, s'.abs, c, q)
  | 0, _, _, _, _, _, _, h => by cases h
  | n + 1, s, s', t, f, c, q, h => by
    unfold segQ at h
    rw [← PySem.W.Fast.te6613529449190102663, ← PySem.W.Fast.te10156331382660048174, ← PySem.W.Fast.te11892475500146522536, ← PySem.W.Fast.te14364793385576792824] at h
    unfold segRun
    cases he : endAt 1 t with
    | some g => rw [he] at h; cases h; rfl
    | none =>
      rw [he] at h
      cases hk : stepOk n₀ ann t with
      | false => rw [hk] at h; cases h
      | true =>
        rw [hk] at h
        cases hs : stepT (denote treeTable) p w s t with
        | none => rw [hs] at h; cases h
        | some r => obtain ⟨s₂, t₂⟩ := r; rw [hs] at h; rw [stepT_spec hs]; exact segQ_of h
noncomputable def goQ (p : Program) (w : World) (n₀ : Nat) (ann : Option Value) : Nat → SharedT → Thread → Option (SharedT × Thread)
  | 0, s, t => some (s, t)
  | n + 1, s, t => match through t with
    | true => none
    | false => match PySem.W.Fast.tw6613529449190102663 n₀ ann t with
      | false => none
      | true => match PySem.W.Fast.tw10156331382660048174 (PySem.W.Fast.tw11892475500146522536 PySem.W.Fast.tw14364793385576792824) p w s t with
        | some (s', t') => goQ p w n₀ ann n s' t'
        | none => none
theorem goQ_of {p : Program} {w : World} {n₀ : Nat} {ann : Option Value} : ∀ {n : Nat} {s s' : SharedT} {t t' : Thread}, goQ p w n₀ ann n s t = some (s', t') → topGo treeTable p w n₀ ann n s.abs t = some (s'.abs, t')
  | 0, _, _, _, _, h => by cases h; rfl
  | n + 1, s, s', t, t', h => by
    unfold goQ at h
    rw [← PySem.W.Fast.te6613529449190102663, ← PySem.W.Fast.te10156331382660048174, ← PySem.W.Fast.te11892475500146522536, ← PySem.W.Fast.te14364793385576792824] at h
    unfold topGo
    cases he : through t with
    | true => rw [he] at h; cases h
    | false =>
      rw [he] at h
      cases hk : stepOk n₀ ann t with
      | false => rw [hk] at h; cases h
      | true =>
        rw [hk] at h
        cases hs : stepT (denote treeTable) p w s t with
        | none => rw [hs] at h; cases h
        | some r => obtain ⟨s₂, t₂⟩ := r; rw [hs] at h; rw [stepT_spec hs]; exact goQ_of h
/-- the text's run, cut in six -/
theorem chain {p : Program} {w : World} {n₀ : Nat} {ann : Option Value} {β : Type} {look : Shared → β} {good : β} {b l1 l2 l3 l4 l5 r : List Stmt} {env : Env} {q p0 p1 p2 p3 p4 p5 : Pos} {m n1 n2 n3 n4 n5 n6 : Nat} {s0 sa s1 s2 s3 s4 s5 : SharedT}
    (hb : b = l1 ++ (l2 ++ (l3 ++ (l4 ++ (l5 ++ r)))))
    (pre : goQ p w n₀ ann m s0 (topStub p) = some (sa, ⟨PySem.W.Fast.tw11892475500146522536 PySem.W.Fast.tw14364793385576792824 (.body b env), .body b env, p0, [topFrame q]⟩))
    (blk : segQ p w n₀ ann 1 sa (blockOf b env (.body b env) p0 [topFrame q]) = some (.next, sa, .body b env, p0))
    (h1 : segQ p w n₀ ann n1 sa (piecesOf l1 env (.body b env) p0 [topFrame q]) = some (.next, s1, .body b env, p1))
    (h2 : segQ p w n₀ ann n2 s1 (piecesOf l2 env (.body b env) p1 [topFrame q]) = some (.next, s2, .body b env, p2))
    (h3 : segQ p w n₀ ann n3 s2 (piecesOf l3 env (.body b env) p2 [topFrame q]) = some (.next, s3, .body b env, p3))
    (h4 : segQ p w n₀ ann n4 s3 (piecesOf l4 env (.body b env) p3 [topFrame q]) = some (.next, s4, .body b env, p4))
    (h5 : segQ p w n₀ ann n5 s4 (piecesOf l5 env (.body b env) p4 [topFrame q]) = some (.next, s5, .body b env, p5))
    (h6 : (runQ p w n₀ ann n6 s5 (restOf r env (.body b env) p5 [topFrame q])).map (fun s => look s.abs) = some good) :
    ∃ s, topRun treeTable p w n₀ ann (m + (1 + (n1 + (n2 + (n3 + (n4 + (n5 + n6))))))) s0.abs (topStub p) = some s ∧ look s = good := by
  obtain ⟨s, e6, e⟩ := Option.map_eq_some_iff.mp h6
  refine ⟨s.abs, ?_, e⟩
  have g := goQ_of pre
  rw [← PySem.W.Fast.te11892475500146522536, ← PySem.W.Fast.te14364793385576792824] at g
  refine go_top g (piece_block (segQ_of blk) ?_)
  have k5 := piece_app (segQ_of h5) (runQ_of e6)
  have k4 := piece_app (segQ_of h4) k5
  have k3 := piece_app (segQ_of h3) k4
  have k2 := piece_app (segQ_of h2) k3
  have k1 := piece_app (segQ_of h1) k2
  rw [← hb] at k1
  exact k1
theorem left_of_ends {p q : Program} {loose : List Str} {Xt : Shared → Bool} {α : Type} {Yf : Shared → α} {Ya : World → α} {N : Nat} {m₀ : Nat} {ann : Option Value} {M : Nat}
    (open_ : ∀ w : World, (fencedOpening treeTable p w N).map (fun s => (s.heap, s.gens, s.drawn, s.toks)) = some (boot_heap w.params, Array.mk [], boot_drawn, boot_toks))
    (size : ∀ w : World, ((boot_heap w.params).isNs mainGlobals && (Array.mk ([] : List GenState)).size == 0, (boot_heap w.params).objs.size, (boot_heap w.params).nsMap mainGlobals "__annotations__") = (true, m₀, ann))
    (tree : ∀ w os, (s0T w m₀ os).abs = ⟨boot_heap w.params, Array.mk [], boot_drawn, boot_toks, os⟩)
    (run : ∀ (w : World) (os : OsState), ∃ s, topRun treeTable p w m₀ ann M (s0T w m₀ os).abs (topStub p) = some s ∧
      ((staticsOk (importedModules p.main.body) (boot_heap w.params) s.heap && namesBound p s.heap && gensDone s && laidKept (boot_heap w.params) s.heap), PySem.W.Fast.tw4187177175401517315 q loose (importedModules p.main.body) Xt true s, Yf s) = (true, openGood q loose, Ya w)) (le : Nat.ble M N = true) : LeftO p q loose Xt Yf Ya N true := fun w => by
  obtain ⟨⟨h, gs, d, k, os⟩, e, e'⟩ := Option.map_eq_some_iff.mp (open_ w)
  obtain ⟨rfl, rfl, rfl, rfl⟩ : h = boot_heap w.params ∧ gs = Array.mk [] ∧ d = boot_drawn ∧ k = boot_toks := by simpa using e'
  obtain ⟨z1, z2, z3⟩ : _ ∧ _ ∧ _ := by simpa only [Prod.mk.injEq] using size w
  obtain ⟨s, r0, hl⟩ := run w os
  rw [← PySem.W.Fast.te4187177175401517315] at hl
  obtain ⟨l1, l2, l3⟩ : _ ∧ _ ∧ _ := by simpa only [Prod.mk.injEq] using hl
  rw [tree] at r0
  have r := topRun_mono (N - M) _ _ _ _ r0
  rw [show M + (N - M) = N by have := Nat.le_of_ble_eq_true le; omega] at r
  have t : topFrom treeTable p w N ⟨boot_heap w.params, Array.mk [], boot_drawn, boot_toks, os⟩ = some s := by
    unfold topFrom
    dsimp only
    rw [z1, z2, z3, r]
    show (match staticsOk (importedModules p.main.body) (boot_heap w.params) s.heap && namesBound p s.heap && gensDone s && laidKept (boot_heap w.params) s.heap with | true => _ | false => _) = _
    rw [l1]
  unfold openEnds
  rw [e]
  show (topFrom treeTable p w N _).map _ = _
  rw [t]
  exact congrArg some (Prod.ext l2 l3)
end Mine
end H5
section H6
open PySem PySem.W PyProof.Rows PySem.Calls
set_option Elab.async false
set_option maxRecDepth 100000
set_option maxHeartbeats 8000000
set_option linter.unusedVariables false
namespace Mine
noncomputable abbrev tx (l : List Nat) : Str := ⟨⟨l⟩⟩
noncomputable def stSA_11 (P : Params) : Obj := { cls := Value.type "tuple", data := Data.seq #[] }
noncomputable def stSA_12 (P : Params) : Obj := { cls := Value.none, data := Data.fields #[] }
noncomputable def stSA_13 (P : Params) : Obj := { cls := Value.type "code", data := Data.fields #[Value.str ((tx [60, 109, 111, 100, 117, 108, 101, 62])) 182, Value.str ((tx [60, 109, 111, 100, 117, 108, 101, 62])) 183, Value.str ((tx [47, 99, 108, 97, 105, 109, 47, 99, 117, 116, 46, 112, 121])) 184, Value.int 1 0, Value.int 0 0, Value.int 0 0, Value.int 0 0, Value.int 0 0, Value.ref 11, Value.bool false, Value.int 181 0, Value.ref 12, Value.none, Value.none, Value.none, Value.none, Value.int 185 0, Value.int 1 0, Value.str ((tx [47, 99, 108, 97, 105, 109, 47, 99, 117, 116, 46, 112, 121])) 186] }
noncomputable def stSA_14 (P : Params) : Obj := { cls := Value.type "frame", slots := #[some (Value.ref 13), some (Value.ref 3), some (Value.ref 3), none, some (Value.str ((tx [95, 95, 109, 97, 105, 110, 95, 95])) 164), none, some (Value.ref 0)] }
noncomputable def SA (w : World) (os : OsState) : SharedT := ⟨bt ((fun P => [boot_o_0 P, boot_o_1 P, boot_o_2 P, boot_o_3 P, boot_o_4 P, boot_o_5 P, boot_o_6 P, boot_o_7 P, boot_o_8 P, boot_o_9 P, boot_o_10 P, stSA_11 P, stSA_12 P, stSA_13 P, stSA_14 P]) w.params) 9 1 0, 15, (boot_heap w.params).life, Array.mk [], boot_drawn, 187, os⟩
noncomputable def stS1_3 (P : Params) : Obj := { cls := Value.type "dict", data := Data.dict #[{ hash := PyData.keyHash P ((tx [95, 95, 110, 97, 109, 101, 95, 95])), key := Value.str ((tx [95, 95, 110, 97, 109, 101, 95, 95])) 165, val := Value.str ((tx [95, 95, 109, 97, 105, 110, 95, 95])) 164 }, { hash := PyData.keyHash P ((tx [95, 95, 100, 111, 99, 95, 95])), key := Value.str ((tx [95, 95, 100, 111, 99, 95, 95])) 166, val := Value.none }, { hash := PyData.keyHash P ((tx [95, 95, 112, 97, 99, 107, 97, 103, 101, 95, 95])), key := Value.str ((tx [95, 95, 112, 97, 99, 107, 97, 103, 101, 95, 95])) 167, val := Value.none }, { hash := PyData.keyHash P ((tx [95, 95, 108, 111, 97, 100, 101, 114, 95, 95])), key := Value.str ((tx [95, 95, 108, 111, 97, 100, 101, 114, 95, 95])) 168, val := Value.builtin "__main__.__loader__#opaque" }, { hash := PyData.keyHash P ((tx [95, 95, 115, 112, 101, 99, 95, 95])), key := Value.str ((tx [95, 95, 115, 112, 101, 99, 95, 95])) 169, val := Value.none }, { hash := PyData.keyHash P ((tx [95, 95, 97, 110, 110, 111, 116, 97, 116, 105, 111, 110, 115, 95, 95])), key := Value.str ((tx [95, 95, 97, 110, 110, 111, 116, 97, 116, 105, 111, 110, 115, 95, 95])) 170, val := Value.ref 6 }, { hash := PyData.keyHash P ((tx [95, 95, 98, 117, 105, 108, 116, 105, 110, 115, 95, 95])), key := Value.str ((tx [95, 95, 98, 117, 105, 108, 116, 105, 110, 115, 95, 95])) 171, val := Value.ref 4 }, { hash := PyData.keyHash P ((tx [95, 95, 102, 105, 108, 101, 95, 95])), key := Value.str ((tx [95, 95, 102, 105, 108, 101, 95, 95])) 173, val := Value.str ((tx [47, 99, 108, 97, 105, 109, 47, 99, 117, 116, 46, 112, 121])) 172 }, { hash := PyData.keyHash P ((tx [95, 95, 99, 97, 99, 104, 101, 100, 95, 95])), key := Value.str ((tx [95, 95, 99, 97, 99, 104, 101, 100, 95, 95])) 174, val := Value.none }, { hash := PyData.keyHash P ((tx [78, 76])), key := Value.str ((tx [78, 76])) 188, val := Value.str ((tx [10])) 187 }, { hash := PyData.keyHash P ((tx [95, 81, 85, 79, 80, 82, 73, 95, 77, 65, 80])), key := Value.str ((tx [95, 81, 85, 79, 80, 82, 73, 95, 77, 65, 80])) 1216, val := Value.ref 17 }] 11 }
noncomputable def stS1_15 (P : Params) : Obj := { cls := Value.type "range", data := Data.fields #[Value.int 0 190, Value.int 256 189, Value.int 1 191] }
noncomputable def stS1_16 (P : Params) : Obj := { cls := Value.type "range_iterator", data := Data.fields #[Value.int 256 0, Value.int 0 0, Value.int 1 0] }
noncomputable def stS1_17 (P : Params) : Obj := { cls := Value.type "list", data := Data.seq #[Value.str ((tx [61, 48, 48])) 195, Value.str ((tx [61, 48, 49])) 199, Value.str ((tx [61, 48, 50])) 203, Value.str ((tx [61, 48, 51])) 207, Value.str ((tx [61, 48, 52])) 211, Value.str ((tx [61, 48, 53])) 215, Value.str ((tx [61, 48, 54])) 219, Value.str ((tx [61, 48, 55])) 223, Value.str ((tx [61, 48, 56])) 227, Value.str ((tx [61, 48, 57])) 231, Value.str ((tx [61, 48, 65])) 235, Value.str ((tx [61, 48, 66])) 239, Value.str ((tx [61, 48, 67])) 243, Value.str ((tx [61, 48, 68])) 247, Value.str ((tx [61, 48, 69])) 251, Value.str ((tx [61, 48, 70])) 255, Value.str ((tx [61, 49, 48])) 259, Value.str ((tx [61, 49, 49])) 263, Value.str ((tx [61, 49, 50])) 267, Value.str ((tx [61, 49, 51])) 271, Value.str ((tx [61, 49, 52])) 275, Value.str ((tx [61, 49, 53])) 279, Value.str ((tx [61, 49, 54])) 283, Value.str ((tx [61, 49, 55])) 287, Value.str ((tx [61, 49, 56])) 291, Value.str ((tx [61, 49, 57])) 295, Value.str ((tx [61, 49, 65])) 299, Value.str ((tx [61, 49, 66])) 303, Value.str ((tx [61, 49, 67])) 307, Value.str ((tx [61, 49, 68])) 311, Value.str ((tx [61, 49, 69])) 315, Value.str ((tx [61, 49, 70])) 319, Value.str ((tx [61, 50, 48])) 323, Value.str ((tx [61, 50, 49])) 327, Value.str ((tx [61, 50, 50])) 331, Value.str ((tx [61, 50, 51])) 335, Value.str ((tx [61, 50, 52])) 339, Value.str ((tx [61, 50, 53])) 343, Value.str ((tx [61, 50, 54])) 347, Value.str ((tx [61, 50, 55])) 351, Value.str ((tx [61, 50, 56])) 355, Value.str ((tx [61, 50, 57])) 359, Value.str ((tx [61, 50, 65])) 363, Value.str ((tx [61, 50, 66])) 367, Value.str ((tx [61, 50, 67])) 371, Value.str ((tx [61, 50, 68])) 375, Value.str ((tx [61, 50, 69])) 379, Value.str ((tx [61, 50, 70])) 383, Value.str ((tx [61, 51, 48])) 387, Value.str ((tx [61, 51, 49])) 391, Value.str ((tx [61, 51, 50])) 395, Value.str ((tx [61, 51, 51])) 399, Value.str ((tx [61, 51, 52])) 403, Value.str ((tx [61, 51, 53])) 407, Value.str ((tx [61, 51, 54])) 411, Value.str ((tx [61, 51, 55])) 415, Value.str ((tx [61, 51, 56])) 419, Value.str ((tx [61, 51, 57])) 423, Value.str ((tx [61, 51, 65])) 427, Value.str ((tx [61, 51, 66])) 431, Value.str ((tx [61, 51, 67])) 435, Value.str ((tx [61, 51, 68])) 439, Value.str ((tx [61, 51, 69])) 443, Value.str ((tx [61, 51, 70])) 447, Value.str ((tx [61, 52, 48])) 451, Value.str ((tx [61, 52, 49])) 455, Value.str ((tx [61, 52, 50])) 459, Value.str ((tx [61, 52, 51])) 463, Value.str ((tx [61, 52, 52])) 467, Value.str ((tx [61, 52, 53])) 471, Value.str ((tx [61, 52, 54])) 475, Value.str ((tx [61, 52, 55])) 479, Value.str ((tx [61, 52, 56])) 483, Value.str ((tx [61, 52, 57])) 487, Value.str ((tx [61, 52, 65])) 491, Value.str ((tx [61, 52, 66])) 495, Value.str ((tx [61, 52, 67])) 499, Value.str ((tx [61, 52, 68])) 503, Value.str ((tx [61, 52, 69])) 507, Value.str ((tx [61, 52, 70])) 511, Value.str ((tx [61, 53, 48])) 515, Value.str ((tx [61, 53, 49])) 519, Value.str ((tx [61, 53, 50])) 523, Value.str ((tx [61, 53, 51])) 527, Value.str ((tx [61, 53, 52])) 531, Value.str ((tx [61, 53, 53])) 535, Value.str ((tx [61, 53, 54])) 539, Value.str ((tx [61, 53, 55])) 543, Value.str ((tx [61, 53, 56])) 547, Value.str ((tx [61, 53, 57])) 551, Value.str ((tx [61, 53, 65])) 555, Value.str ((tx [61, 53, 66])) 559, Value.str ((tx [61, 53, 67])) 563, Value.str ((tx [61, 53, 68])) 567, Value.str ((tx [61, 53, 69])) 571, Value.str ((tx [61, 53, 70])) 575, Value.str ((tx [61, 54, 48])) 579, Value.str ((tx [61, 54, 49])) 583, Value.str ((tx [61, 54, 50])) 587, Value.str ((tx [61, 54, 51])) 591, Value.str ((tx [61, 54, 52])) 595, Value.str ((tx [61, 54, 53])) 599, Value.str ((tx [61, 54, 54])) 603, Value.str ((tx [61, 54, 55])) 607, Value.str ((tx [61, 54, 56])) 611, Value.str ((tx [61, 54, 57])) 615, Value.str ((tx [61, 54, 65])) 619, Value.str ((tx [61, 54, 66])) 623, Value.str ((tx [61, 54, 67])) 627, Value.str ((tx [61, 54, 68])) 631, Value.str ((tx [61, 54, 69])) 635, Value.str ((tx [61, 54, 70])) 639, Value.str ((tx [61, 55, 48])) 643, Value.str ((tx [61, 55, 49])) 647, Value.str ((tx [61, 55, 50])) 651, Value.str ((tx [61, 55, 51])) 655, Value.str ((tx [61, 55, 52])) 659, Value.str ((tx [61, 55, 53])) 663, Value.str ((tx [61, 55, 54])) 667, Value.str ((tx [61, 55, 55])) 671, Value.str ((tx [61, 55, 56])) 675, Value.str ((tx [61, 55, 57])) 679, Value.str ((tx [61, 55, 65])) 683, Value.str ((tx [61, 55, 66])) 687, Value.str ((tx [61, 55, 67])) 691, Value.str ((tx [61, 55, 68])) 695, Value.str ((tx [61, 55, 69])) 699, Value.str ((tx [61, 55, 70])) 703, Value.str ((tx [61, 56, 48])) 707, Value.str ((tx [61, 56, 49])) 711, Value.str ((tx [61, 56, 50])) 715, Value.str ((tx [61, 56, 51])) 719, Value.str ((tx [61, 56, 52])) 723, Value.str ((tx [61, 56, 53])) 727, Value.str ((tx [61, 56, 54])) 731, Value.str ((tx [61, 56, 55])) 735, Value.str ((tx [61, 56, 56])) 739, Value.str ((tx [61, 56, 57])) 743, Value.str ((tx [61, 56, 65])) 747, Value.str ((tx [61, 56, 66])) 751, Value.str ((tx [61, 56, 67])) 755, Value.str ((tx [61, 56, 68])) 759, Value.str ((tx [61, 56, 69])) 763, Value.str ((tx [61, 56, 70])) 767, Value.str ((tx [61, 57, 48])) 771, Value.str ((tx [61, 57, 49])) 775, Value.str ((tx [61, 57, 50])) 779, Value.str ((tx [61, 57, 51])) 783, Value.str ((tx [61, 57, 52])) 787, Value.str ((tx [61, 57, 53])) 791, Value.str ((tx [61, 57, 54])) 795, Value.str ((tx [61, 57, 55])) 799, Value.str ((tx [61, 57, 56])) 803, Value.str ((tx [61, 57, 57])) 807, Value.str ((tx [61, 57, 65])) 811, Value.str ((tx [61, 57, 66])) 815, Value.str ((tx [61, 57, 67])) 819, Value.str ((tx [61, 57, 68])) 823, Value.str ((tx [61, 57, 69])) 827, Value.str ((tx [61, 57, 70])) 831, Value.str ((tx [61, 65, 48])) 835, Value.str ((tx [61, 65, 49])) 839, Value.str ((tx [61, 65, 50])) 843, Value.str ((tx [61, 65, 51])) 847, Value.str ((tx [61, 65, 52])) 851, Value.str ((tx [61, 65, 53])) 855, Value.str ((tx [61, 65, 54])) 859, Value.str ((tx [61, 65, 55])) 863, Value.str ((tx [61, 65, 56])) 867, Value.str ((tx [61, 65, 57])) 871, Value.str ((tx [61, 65, 65])) 875, Value.str ((tx [61, 65, 66])) 879, Value.str ((tx [61, 65, 67])) 883, Value.str ((tx [61, 65, 68])) 887, Value.str ((tx [61, 65, 69])) 891, Value.str ((tx [61, 65, 70])) 895, Value.str ((tx [61, 66, 48])) 899, Value.str ((tx [61, 66, 49])) 903, Value.str ((tx [61, 66, 50])) 907, Value.str ((tx [61, 66, 51])) 911, Value.str ((tx [61, 66, 52])) 915, Value.str ((tx [61, 66, 53])) 919, Value.str ((tx [61, 66, 54])) 923, Value.str ((tx [61, 66, 55])) 927, Value.str ((tx [61, 66, 56])) 931, Value.str ((tx [61, 66, 57])) 935, Value.str ((tx [61, 66, 65])) 939, Value.str ((tx [61, 66, 66])) 943, Value.str ((tx [61, 66, 67])) 947, Value.str ((tx [61, 66, 68])) 951, Value.str ((tx [61, 66, 69])) 955, Value.str ((tx [61, 66, 70])) 959, Value.str ((tx [61, 67, 48])) 963, Value.str ((tx [61, 67, 49])) 967, Value.str ((tx [61, 67, 50])) 971, Value.str ((tx [61, 67, 51])) 975, Value.str ((tx [61, 67, 52])) 979, Value.str ((tx [61, 67, 53])) 983, Value.str ((tx [61, 67, 54])) 987, Value.str ((tx [61, 67, 55])) 991, Value.str ((tx [61, 67, 56])) 995, Value.str ((tx [61, 67, 57])) 999, Value.str ((tx [61, 67, 65])) 1003, Value.str ((tx [61, 67, 66])) 1007, Value.str ((tx [61, 67, 67])) 1011, Value.str ((tx [61, 67, 68])) 1015, Value.str ((tx [61, 67, 69])) 1019, Value.str ((tx [61, 67, 70])) 1023, Value.str ((tx [61, 68, 48])) 1027, Value.str ((tx [61, 68, 49])) 1031, Value.str ((tx [61, 68, 50])) 1035, Value.str ((tx [61, 68, 51])) 1039, Value.str ((tx [61, 68, 52])) 1043, Value.str ((tx [61, 68, 53])) 1047, Value.str ((tx [61, 68, 54])) 1051, Value.str ((tx [61, 68, 55])) 1055, Value.str ((tx [61, 68, 56])) 1059, Value.str ((tx [61, 68, 57])) 1063, Value.str ((tx [61, 68, 65])) 1067, Value.str ((tx [61, 68, 66])) 1071, Value.str ((tx [61, 68, 67])) 1075, Value.str ((tx [61, 68, 68])) 1079, Value.str ((tx [61, 68, 69])) 1083, Value.str ((tx [61, 68, 70])) 1087, Value.str ((tx [61, 69, 48])) 1091, Value.str ((tx [61, 69, 49])) 1095, Value.str ((tx [61, 69, 50])) 1099, Value.str ((tx [61, 69, 51])) 1103, Value.str ((tx [61, 69, 52])) 1107, Value.str ((tx [61, 69, 53])) 1111, Value.str ((tx [61, 69, 54])) 1115, Value.str ((tx [61, 69, 55])) 1119, Value.str ((tx [61, 69, 56])) 1123, Value.str ((tx [61, 69, 57])) 1127, Value.str ((tx [61, 69, 65])) 1131, Value.str ((tx [61, 69, 66])) 1135, Value.str ((tx [61, 69, 67])) 1139, Value.str ((tx [61, 69, 68])) 1143, Value.str ((tx [61, 69, 69])) 1147, Value.str ((tx [61, 69, 70])) 1151, Value.str ((tx [61, 70, 48])) 1155, Value.str ((tx [61, 70, 49])) 1159, Value.str ((tx [61, 70, 50])) 1163, Value.str ((tx [61, 70, 51])) 1167, Value.str ((tx [61, 70, 52])) 1171, Value.str ((tx [61, 70, 53])) 1175, Value.str ((tx [61, 70, 54])) 1179, Value.str ((tx [61, 70, 55])) 1183, Value.str ((tx [61, 70, 56])) 1187, Value.str ((tx [61, 70, 57])) 1191, Value.str ((tx [61, 70, 65])) 1195, Value.str ((tx [61, 70, 66])) 1199, Value.str ((tx [61, 70, 67])) 1203, Value.str ((tx [61, 70, 68])) 1207, Value.str ((tx [61, 70, 69])) 1211, Value.str ((tx [61, 70, 70])) 1215] 256 }
noncomputable def stS1_18 (P : Params) : Obj := { cls := Value.type "dict", data := Data.dict #[] 2 }
noncomputable def stS1_19 (P : Params) : Obj := { cls := Value.type "tuple", data := Data.seq #[] }
noncomputable def stS1_20 (P : Params) : Obj := { cls := Value.type "StopIteration", data := Data.fields #[Value.ref 19, Value.none, Value.none, Value.none, Value.bool false, Value.none] }
noncomputable def S1 (w : World) (os : OsState) : SharedT := ⟨bt ((fun P => [boot_o_0 P, boot_o_1 P, boot_o_2 P, stS1_3 P, boot_o_4 P, boot_o_5 P, boot_o_6 P, boot_o_7 P, boot_o_8 P, boot_o_9 P, boot_o_10 P, stSA_11 P, stSA_12 P, stSA_13 P, stSA_14 P, stS1_15 P, stS1_16 P, stS1_17 P, stS1_18 P, stS1_19 P, stS1_20 P]) w.params) 9 1 0, 21, (boot_heap w.params).life, Array.mk [], boot_drawn, 1217, os⟩
noncomputable def stSb_3 (P : Params) : Obj := { cls := Value.type "dict", data := Data.dict #[{ hash := PyData.keyHash P ((tx [95, 95, 110, 97, 109, 101, 95, 95])), key := Value.str ((tx [95, 95, 110, 97, 109, 101, 95, 95])) 165, val := Value.str ((tx [99, 112, 121, 51, 49, 51, 46, 101, 109, 97, 105, 108, 46, 113, 117, 111, 112, 114, 105, 109, 105, 109, 101])) 1232 }, { hash := PyData.keyHash P ((tx [95, 95, 100, 111, 99, 95, 95])), key := Value.str ((tx [95, 95, 100, 111, 99, 95, 95])) 166, val := Value.none }, { hash := PyData.keyHash P ((tx [95, 95, 112, 97, 99, 107, 97, 103, 101, 95, 95])), key := Value.str ((tx [95, 95, 112, 97, 99, 107, 97, 103, 101, 95, 95])) 167, val := Value.none }, { hash := PyData.keyHash P ((tx [95, 95, 108, 111, 97, 100, 101, 114, 95, 95])), key := Value.str ((tx [95, 95, 108, 111, 97, 100, 101, 114, 95, 95])) 168, val := Value.builtin "__main__.__loader__#opaque" }, { hash := PyData.keyHash P ((tx [95, 95, 115, 112, 101, 99, 95, 95])), key := Value.str ((tx [95, 95, 115, 112, 101, 99, 95, 95])) 169, val := Value.none }, { hash := PyData.keyHash P ((tx [95, 95, 97, 110, 110, 111, 116, 97, 116, 105, 111, 110, 115, 95, 95])), key := Value.str ((tx [95, 95, 97, 110, 110, 111, 116, 97, 116, 105, 111, 110, 115, 95, 95])) 170, val := Value.ref 6 }, { hash := PyData.keyHash P ((tx [95, 95, 98, 117, 105, 108, 116, 105, 110, 115, 95, 95])), key := Value.str ((tx [95, 95, 98, 117, 105, 108, 116, 105, 110, 115, 95, 95])) 171, val := Value.ref 4 }, { hash := PyData.keyHash P ((tx [95, 95, 102, 105, 108, 101, 95, 95])), key := Value.str ((tx [95, 95, 102, 105, 108, 101, 95, 95])) 173, val := Value.str ((tx [47, 99, 108, 97, 105, 109, 47, 99, 117, 116, 46, 112, 121])) 172 }, { hash := PyData.keyHash P ((tx [95, 95, 99, 97, 99, 104, 101, 100, 95, 95])), key := Value.str ((tx [95, 95, 99, 97, 99, 104, 101, 100, 95, 95])) 174, val := Value.none }, { hash := PyData.keyHash P ((tx [78, 76])), key := Value.str ((tx [78, 76])) 188, val := Value.str ((tx [10])) 187 }, { hash := PyData.keyHash P ((tx [95, 81, 85, 79, 80, 82, 73, 95, 77, 65, 80])), key := Value.str ((tx [95, 81, 85, 79, 80, 82, 73, 95, 77, 65, 80])) 1216, val := Value.ref 17 }, { hash := PyData.keyHash P ((tx [95, 81, 85, 79, 80, 82, 73, 95, 72, 69, 65, 68, 69, 82, 95, 77, 65, 80])), key := Value.str ((tx [95, 81, 85, 79, 80, 82, 73, 95, 72, 69, 65, 68, 69, 82, 95, 77, 65, 80])) 1217, val := Value.ref 22 }, { hash := PyData.keyHash P ((tx [95, 81, 85, 79, 80, 82, 73, 95, 66, 79, 68, 89, 95, 77, 65, 80])), key := Value.str ((tx [95, 81, 85, 79, 80, 82, 73, 95, 66, 79, 68, 89, 95, 77, 65, 80])) 1218, val := Value.ref 24 }, { hash := PyData.keyHash P ((tx [97, 115, 99, 105, 105, 95, 108, 111, 119, 101, 114, 99, 97, 115, 101])), key := Value.str ((tx [97, 115, 99, 105, 105, 95, 108, 111, 119, 101, 114, 99, 97, 115, 101])) 1220, val := Value.str ((tx [97, 98, 99, 100, 101, 102, 103, 104, 105, 106, 107, 108, 109, 110, 111, 112, 113, 114, 115, 116, 117, 118, 119, 120, 121, 122])) 1219 }, { hash := PyData.keyHash P ((tx [97, 115, 99, 105, 105, 95, 117, 112, 112, 101, 114, 99, 97, 115, 101])), key := Value.str ((tx [97, 115, 99, 105, 105, 95, 117, 112, 112, 101, 114, 99, 97, 115, 101])) 1222, val := Value.str ((tx [65, 66, 67, 68, 69, 70, 71, 72, 73, 74, 75, 76, 77, 78, 79, 80, 81, 82, 83, 84, 85, 86, 87, 88, 89, 90])) 1221 }, { hash := PyData.keyHash P ((tx [97, 115, 99, 105, 105, 95, 108, 101, 116, 116, 101, 114, 115])), key := Value.str ((tx [97, 115, 99, 105, 105, 95, 108, 101, 116, 116, 101, 114, 115])) 1224, val := Value.str ((tx [97, 98, 99, 100, 101, 102, 103, 104, 105, 106, 107, 108, 109, 110, 111, 112, 113, 114, 115, 116, 117, 118, 119, 120, 121, 122, 65, 66, 67, 68, 69, 70, 71, 72, 73, 74, 75, 76, 77, 78, 79, 80, 81, 82, 83, 84, 85, 86, 87, 88, 89, 90])) 1223 }, { hash := PyData.keyHash P ((tx [100, 105, 103, 105, 116, 115])), key := Value.str ((tx [100, 105, 103, 105, 116, 115])) 1226, val := Value.str ((tx [48, 49, 50, 51, 52, 53, 54, 55, 56, 57])) 1225 }, { hash := PyData.keyHash P ((tx [104, 101, 120, 100, 105, 103, 105, 116, 115])), key := Value.str ((tx [104, 101, 120, 100, 105, 103, 105, 116, 115])) 1231, val := Value.str ((tx [48, 49, 50, 51, 52, 53, 54, 55, 56, 57, 97, 98, 99, 100, 101, 102, 65, 66, 67, 68, 69, 70])) 1230 }] 18 }
noncomputable def stSb_21 (P : Params) : Obj := { cls := Value.type "slice", data := Data.fields #[Value.none, Value.none, Value.none] }
noncomputable def stSb_22 (P : Params) : Obj := { cls := Value.type "list", data := Data.seq #[Value.str ((tx [61, 48, 48])) 195, Value.str ((tx [61, 48, 49])) 199, Value.str ((tx [61, 48, 50])) 203, Value.str ((tx [61, 48, 51])) 207, Value.str ((tx [61, 48, 52])) 211, Value.str ((tx [61, 48, 53])) 215, Value.str ((tx [61, 48, 54])) 219, Value.str ((tx [61, 48, 55])) 223, Value.str ((tx [61, 48, 56])) 227, Value.str ((tx [61, 48, 57])) 231, Value.str ((tx [61, 48, 65])) 235, Value.str ((tx [61, 48, 66])) 239, Value.str ((tx [61, 48, 67])) 243, Value.str ((tx [61, 48, 68])) 247, Value.str ((tx [61, 48, 69])) 251, Value.str ((tx [61, 48, 70])) 255, Value.str ((tx [61, 49, 48])) 259, Value.str ((tx [61, 49, 49])) 263, Value.str ((tx [61, 49, 50])) 267, Value.str ((tx [61, 49, 51])) 271, Value.str ((tx [61, 49, 52])) 275, Value.str ((tx [61, 49, 53])) 279, Value.str ((tx [61, 49, 54])) 283, Value.str ((tx [61, 49, 55])) 287, Value.str ((tx [61, 49, 56])) 291, Value.str ((tx [61, 49, 57])) 295, Value.str ((tx [61, 49, 65])) 299, Value.str ((tx [61, 49, 66])) 303, Value.str ((tx [61, 49, 67])) 307, Value.str ((tx [61, 49, 68])) 311, Value.str ((tx [61, 49, 69])) 315, Value.str ((tx [61, 49, 70])) 319, Value.str ((tx [61, 50, 48])) 323, Value.str ((tx [61, 50, 49])) 327, Value.str ((tx [61, 50, 50])) 331, Value.str ((tx [61, 50, 51])) 335, Value.str ((tx [61, 50, 52])) 339, Value.str ((tx [61, 50, 53])) 343, Value.str ((tx [61, 50, 54])) 347, Value.str ((tx [61, 50, 55])) 351, Value.str ((tx [61, 50, 56])) 355, Value.str ((tx [61, 50, 57])) 359, Value.str ((tx [61, 50, 65])) 363, Value.str ((tx [61, 50, 66])) 367, Value.str ((tx [61, 50, 67])) 371, Value.str ((tx [61, 50, 68])) 375, Value.str ((tx [61, 50, 69])) 379, Value.str ((tx [61, 50, 70])) 383, Value.str ((tx [61, 51, 48])) 387, Value.str ((tx [61, 51, 49])) 391, Value.str ((tx [61, 51, 50])) 395, Value.str ((tx [61, 51, 51])) 399, Value.str ((tx [61, 51, 52])) 403, Value.str ((tx [61, 51, 53])) 407, Value.str ((tx [61, 51, 54])) 411, Value.str ((tx [61, 51, 55])) 415, Value.str ((tx [61, 51, 56])) 419, Value.str ((tx [61, 51, 57])) 423, Value.str ((tx [61, 51, 65])) 427, Value.str ((tx [61, 51, 66])) 431, Value.str ((tx [61, 51, 67])) 435, Value.str ((tx [61, 51, 68])) 439, Value.str ((tx [61, 51, 69])) 443, Value.str ((tx [61, 51, 70])) 447, Value.str ((tx [61, 52, 48])) 451, Value.str ((tx [61, 52, 49])) 455, Value.str ((tx [61, 52, 50])) 459, Value.str ((tx [61, 52, 51])) 463, Value.str ((tx [61, 52, 52])) 467, Value.str ((tx [61, 52, 53])) 471, Value.str ((tx [61, 52, 54])) 475, Value.str ((tx [61, 52, 55])) 479, Value.str ((tx [61, 52, 56])) 483, Value.str ((tx [61, 52, 57])) 487, Value.str ((tx [61, 52, 65])) 491, Value.str ((tx [61, 52, 66])) 495, Value.str ((tx [61, 52, 67])) 499, Value.str ((tx [61, 52, 68])) 503, Value.str ((tx [61, 52, 69])) 507, Value.str ((tx [61, 52, 70])) 511, Value.str ((tx [61, 53, 48])) 515, Value.str ((tx [61, 53, 49])) 519, Value.str ((tx [61, 53, 50])) 523, Value.str ((tx [61, 53, 51])) 527, Value.str ((tx [61, 53, 52])) 531, Value.str ((tx [61, 53, 53])) 535, Value.str ((tx [61, 53, 54])) 539, Value.str ((tx [61, 53, 55])) 543, Value.str ((tx [61, 53, 56])) 547, Value.str ((tx [61, 53, 57])) 551, Value.str ((tx [61, 53, 65])) 555, Value.str ((tx [61, 53, 66])) 559, Value.str ((tx [61, 53, 67])) 563, Value.str ((tx [61, 53, 68])) 567, Value.str ((tx [61, 53, 69])) 571, Value.str ((tx [61, 53, 70])) 575, Value.str ((tx [61, 54, 48])) 579, Value.str ((tx [61, 54, 49])) 583, Value.str ((tx [61, 54, 50])) 587, Value.str ((tx [61, 54, 51])) 591, Value.str ((tx [61, 54, 52])) 595, Value.str ((tx [61, 54, 53])) 599, Value.str ((tx [61, 54, 54])) 603, Value.str ((tx [61, 54, 55])) 607, Value.str ((tx [61, 54, 56])) 611, Value.str ((tx [61, 54, 57])) 615, Value.str ((tx [61, 54, 65])) 619, Value.str ((tx [61, 54, 66])) 623, Value.str ((tx [61, 54, 67])) 627, Value.str ((tx [61, 54, 68])) 631, Value.str ((tx [61, 54, 69])) 635, Value.str ((tx [61, 54, 70])) 639, Value.str ((tx [61, 55, 48])) 643, Value.str ((tx [61, 55, 49])) 647, Value.str ((tx [61, 55, 50])) 651, Value.str ((tx [61, 55, 51])) 655, Value.str ((tx [61, 55, 52])) 659, Value.str ((tx [61, 55, 53])) 663, Value.str ((tx [61, 55, 54])) 667, Value.str ((tx [61, 55, 55])) 671, Value.str ((tx [61, 55, 56])) 675, Value.str ((tx [61, 55, 57])) 679, Value.str ((tx [61, 55, 65])) 683, Value.str ((tx [61, 55, 66])) 687, Value.str ((tx [61, 55, 67])) 691, Value.str ((tx [61, 55, 68])) 695, Value.str ((tx [61, 55, 69])) 699, Value.str ((tx [61, 55, 70])) 703, Value.str ((tx [61, 56, 48])) 707, Value.str ((tx [61, 56, 49])) 711, Value.str ((tx [61, 56, 50])) 715, Value.str ((tx [61, 56, 51])) 719, Value.str ((tx [61, 56, 52])) 723, Value.str ((tx [61, 56, 53])) 727, Value.str ((tx [61, 56, 54])) 731, Value.str ((tx [61, 56, 55])) 735, Value.str ((tx [61, 56, 56])) 739, Value.str ((tx [61, 56, 57])) 743, Value.str ((tx [61, 56, 65])) 747, Value.str ((tx [61, 56, 66])) 751, Value.str ((tx [61, 56, 67])) 755, Value.str ((tx [61, 56, 68])) 759, Value.str ((tx [61, 56, 69])) 763, Value.str ((tx [61, 56, 70])) 767, Value.str ((tx [61, 57, 48])) 771, Value.str ((tx [61, 57, 49])) 775, Value.str ((tx [61, 57, 50])) 779, Value.str ((tx [61, 57, 51])) 783, Value.str ((tx [61, 57, 52])) 787, Value.str ((tx [61, 57, 53])) 791, Value.str ((tx [61, 57, 54])) 795, Value.str ((tx [61, 57, 55])) 799, Value.str ((tx [61, 57, 56])) 803, Value.str ((tx [61, 57, 57])) 807, Value.str ((tx [61, 57, 65])) 811, Value.str ((tx [61, 57, 66])) 815, Value.str ((tx [61, 57, 67])) 819, Value.str ((tx [61, 57, 68])) 823, Value.str ((tx [61, 57, 69])) 827, Value.str ((tx [61, 57, 70])) 831, Value.str ((tx [61, 65, 48])) 835, Value.str ((tx [61, 65, 49])) 839, Value.str ((tx [61, 65, 50])) 843, Value.str ((tx [61, 65, 51])) 847, Value.str ((tx [61, 65, 52])) 851, Value.str ((tx [61, 65, 53])) 855, Value.str ((tx [61, 65, 54])) 859, Value.str ((tx [61, 65, 55])) 863, Value.str ((tx [61, 65, 56])) 867, Value.str ((tx [61, 65, 57])) 871, Value.str ((tx [61, 65, 65])) 875, Value.str ((tx [61, 65, 66])) 879, Value.str ((tx [61, 65, 67])) 883, Value.str ((tx [61, 65, 68])) 887, Value.str ((tx [61, 65, 69])) 891, Value.str ((tx [61, 65, 70])) 895, Value.str ((tx [61, 66, 48])) 899, Value.str ((tx [61, 66, 49])) 903, Value.str ((tx [61, 66, 50])) 907, Value.str ((tx [61, 66, 51])) 911, Value.str ((tx [61, 66, 52])) 915, Value.str ((tx [61, 66, 53])) 919, Value.str ((tx [61, 66, 54])) 923, Value.str ((tx [61, 66, 55])) 927, Value.str ((tx [61, 66, 56])) 931, Value.str ((tx [61, 66, 57])) 935, Value.str ((tx [61, 66, 65])) 939, Value.str ((tx [61, 66, 66])) 943, Value.str ((tx [61, 66, 67])) 947, Value.str ((tx [61, 66, 68])) 951, Value.str ((tx [61, 66, 69])) 955, Value.str ((tx [61, 66, 70])) 959, Value.str ((tx [61, 67, 48])) 963, Value.str ((tx [61, 67, 49])) 967, Value.str ((tx [61, 67, 50])) 971, Value.str ((tx [61, 67, 51])) 975, Value.str ((tx [61, 67, 52])) 979, Value.str ((tx [61, 67, 53])) 983, Value.str ((tx [61, 67, 54])) 987, Value.str ((tx [61, 67, 55])) 991, Value.str ((tx [61, 67, 56])) 995, Value.str ((tx [61, 67, 57])) 999, Value.str ((tx [61, 67, 65])) 1003, Value.str ((tx [61, 67, 66])) 1007, Value.str ((tx [61, 67, 67])) 1011, Value.str ((tx [61, 67, 68])) 1015, Value.str ((tx [61, 67, 69])) 1019, Value.str ((tx [61, 67, 70])) 1023, Value.str ((tx [61, 68, 48])) 1027, Value.str ((tx [61, 68, 49])) 1031, Value.str ((tx [61, 68, 50])) 1035, Value.str ((tx [61, 68, 51])) 1039, Value.str ((tx [61, 68, 52])) 1043, Value.str ((tx [61, 68, 53])) 1047, Value.str ((tx [61, 68, 54])) 1051, Value.str ((tx [61, 68, 55])) 1055, Value.str ((tx [61, 68, 56])) 1059, Value.str ((tx [61, 68, 57])) 1063, Value.str ((tx [61, 68, 65])) 1067, Value.str ((tx [61, 68, 66])) 1071, Value.str ((tx [61, 68, 67])) 1075, Value.str ((tx [61, 68, 68])) 1079, Value.str ((tx [61, 68, 69])) 1083, Value.str ((tx [61, 68, 70])) 1087, Value.str ((tx [61, 69, 48])) 1091, Value.str ((tx [61, 69, 49])) 1095, Value.str ((tx [61, 69, 50])) 1099, Value.str ((tx [61, 69, 51])) 1103, Value.str ((tx [61, 69, 52])) 1107, Value.str ((tx [61, 69, 53])) 1111, Value.str ((tx [61, 69, 54])) 1115, Value.str ((tx [61, 69, 55])) 1119, Value.str ((tx [61, 69, 56])) 1123, Value.str ((tx [61, 69, 57])) 1127, Value.str ((tx [61, 69, 65])) 1131, Value.str ((tx [61, 69, 66])) 1135, Value.str ((tx [61, 69, 67])) 1139, Value.str ((tx [61, 69, 68])) 1143, Value.str ((tx [61, 69, 69])) 1147, Value.str ((tx [61, 69, 70])) 1151, Value.str ((tx [61, 70, 48])) 1155, Value.str ((tx [61, 70, 49])) 1159, Value.str ((tx [61, 70, 50])) 1163, Value.str ((tx [61, 70, 51])) 1167, Value.str ((tx [61, 70, 52])) 1171, Value.str ((tx [61, 70, 53])) 1175, Value.str ((tx [61, 70, 54])) 1179, Value.str ((tx [61, 70, 55])) 1183, Value.str ((tx [61, 70, 56])) 1187, Value.str ((tx [61, 70, 57])) 1191, Value.str ((tx [61, 70, 65])) 1195, Value.str ((tx [61, 70, 66])) 1199, Value.str ((tx [61, 70, 67])) 1203, Value.str ((tx [61, 70, 68])) 1207, Value.str ((tx [61, 70, 69])) 1211, Value.str ((tx [61, 70, 70])) 1215] }
noncomputable def stSb_23 (P : Params) : Obj := { cls := Value.type "slice", data := Data.fields #[Value.none, Value.none, Value.none] }
noncomputable def stSb_24 (P : Params) : Obj := { cls := Value.type "list", data := Data.seq #[Value.str ((tx [61, 48, 48])) 195, Value.str ((tx [61, 48, 49])) 199, Value.str ((tx [61, 48, 50])) 203, Value.str ((tx [61, 48, 51])) 207, Value.str ((tx [61, 48, 52])) 211, Value.str ((tx [61, 48, 53])) 215, Value.str ((tx [61, 48, 54])) 219, Value.str ((tx [61, 48, 55])) 223, Value.str ((tx [61, 48, 56])) 227, Value.str ((tx [61, 48, 57])) 231, Value.str ((tx [61, 48, 65])) 235, Value.str ((tx [61, 48, 66])) 239, Value.str ((tx [61, 48, 67])) 243, Value.str ((tx [61, 48, 68])) 247, Value.str ((tx [61, 48, 69])) 251, Value.str ((tx [61, 48, 70])) 255, Value.str ((tx [61, 49, 48])) 259, Value.str ((tx [61, 49, 49])) 263, Value.str ((tx [61, 49, 50])) 267, Value.str ((tx [61, 49, 51])) 271, Value.str ((tx [61, 49, 52])) 275, Value.str ((tx [61, 49, 53])) 279, Value.str ((tx [61, 49, 54])) 283, Value.str ((tx [61, 49, 55])) 287, Value.str ((tx [61, 49, 56])) 291, Value.str ((tx [61, 49, 57])) 295, Value.str ((tx [61, 49, 65])) 299, Value.str ((tx [61, 49, 66])) 303, Value.str ((tx [61, 49, 67])) 307, Value.str ((tx [61, 49, 68])) 311, Value.str ((tx [61, 49, 69])) 315, Value.str ((tx [61, 49, 70])) 319, Value.str ((tx [61, 50, 48])) 323, Value.str ((tx [61, 50, 49])) 327, Value.str ((tx [61, 50, 50])) 331, Value.str ((tx [61, 50, 51])) 335, Value.str ((tx [61, 50, 52])) 339, Value.str ((tx [61, 50, 53])) 343, Value.str ((tx [61, 50, 54])) 347, Value.str ((tx [61, 50, 55])) 351, Value.str ((tx [61, 50, 56])) 355, Value.str ((tx [61, 50, 57])) 359, Value.str ((tx [61, 50, 65])) 363, Value.str ((tx [61, 50, 66])) 367, Value.str ((tx [61, 50, 67])) 371, Value.str ((tx [61, 50, 68])) 375, Value.str ((tx [61, 50, 69])) 379, Value.str ((tx [61, 50, 70])) 383, Value.str ((tx [61, 51, 48])) 387, Value.str ((tx [61, 51, 49])) 391, Value.str ((tx [61, 51, 50])) 395, Value.str ((tx [61, 51, 51])) 399, Value.str ((tx [61, 51, 52])) 403, Value.str ((tx [61, 51, 53])) 407, Value.str ((tx [61, 51, 54])) 411, Value.str ((tx [61, 51, 55])) 415, Value.str ((tx [61, 51, 56])) 419, Value.str ((tx [61, 51, 57])) 423, Value.str ((tx [61, 51, 65])) 427, Value.str ((tx [61, 51, 66])) 431, Value.str ((tx [61, 51, 67])) 435, Value.str ((tx [61, 51, 68])) 439, Value.str ((tx [61, 51, 69])) 443, Value.str ((tx [61, 51, 70])) 447, Value.str ((tx [61, 52, 48])) 451, Value.str ((tx [61, 52, 49])) 455, Value.str ((tx [61, 52, 50])) 459, Value.str ((tx [61, 52, 51])) 463, Value.str ((tx [61, 52, 52])) 467, Value.str ((tx [61, 52, 53])) 471, Value.str ((tx [61, 52, 54])) 475, Value.str ((tx [61, 52, 55])) 479, Value.str ((tx [61, 52, 56])) 483, Value.str ((tx [61, 52, 57])) 487, Value.str ((tx [61, 52, 65])) 491, Value.str ((tx [61, 52, 66])) 495, Value.str ((tx [61, 52, 67])) 499, Value.str ((tx [61, 52, 68])) 503, Value.str ((tx [61, 52, 69])) 507, Value.str ((tx [61, 52, 70])) 511, Value.str ((tx [61, 53, 48])) 515, Value.str ((tx [61, 53, 49])) 519, Value.str ((tx [61, 53, 50])) 523, Value.str ((tx [61, 53, 51])) 527, Value.str ((tx [61, 53, 52])) 531, Value.str ((tx [61, 53, 53])) 535, Value.str ((tx [61, 53, 54])) 539, Value.str ((tx [61, 53, 55])) 543, Value.str ((tx [61, 53, 56])) 547, Value.str ((tx [61, 53, 57])) 551, Value.str ((tx [61, 53, 65])) 555, Value.str ((tx [61, 53, 66])) 559, Value.str ((tx [61, 53, 67])) 563, Value.str ((tx [61, 53, 68])) 567, Value.str ((tx [61, 53, 69])) 571, Value.str ((tx [61, 53, 70])) 575, Value.str ((tx [61, 54, 48])) 579, Value.str ((tx [61, 54, 49])) 583, Value.str ((tx [61, 54, 50])) 587, Value.str ((tx [61, 54, 51])) 591, Value.str ((tx [61, 54, 52])) 595, Value.str ((tx [61, 54, 53])) 599, Value.str ((tx [61, 54, 54])) 603, Value.str ((tx [61, 54, 55])) 607, Value.str ((tx [61, 54, 56])) 611, Value.str ((tx [61, 54, 57])) 615, Value.str ((tx [61, 54, 65])) 619, Value.str ((tx [61, 54, 66])) 623, Value.str ((tx [61, 54, 67])) 627, Value.str ((tx [61, 54, 68])) 631, Value.str ((tx [61, 54, 69])) 635, Value.str ((tx [61, 54, 70])) 639, Value.str ((tx [61, 55, 48])) 643, Value.str ((tx [61, 55, 49])) 647, Value.str ((tx [61, 55, 50])) 651, Value.str ((tx [61, 55, 51])) 655, Value.str ((tx [61, 55, 52])) 659, Value.str ((tx [61, 55, 53])) 663, Value.str ((tx [61, 55, 54])) 667, Value.str ((tx [61, 55, 55])) 671, Value.str ((tx [61, 55, 56])) 675, Value.str ((tx [61, 55, 57])) 679, Value.str ((tx [61, 55, 65])) 683, Value.str ((tx [61, 55, 66])) 687, Value.str ((tx [61, 55, 67])) 691, Value.str ((tx [61, 55, 68])) 695, Value.str ((tx [61, 55, 69])) 699, Value.str ((tx [61, 55, 70])) 703, Value.str ((tx [61, 56, 48])) 707, Value.str ((tx [61, 56, 49])) 711, Value.str ((tx [61, 56, 50])) 715, Value.str ((tx [61, 56, 51])) 719, Value.str ((tx [61, 56, 52])) 723, Value.str ((tx [61, 56, 53])) 727, Value.str ((tx [61, 56, 54])) 731, Value.str ((tx [61, 56, 55])) 735, Value.str ((tx [61, 56, 56])) 739, Value.str ((tx [61, 56, 57])) 743, Value.str ((tx [61, 56, 65])) 747, Value.str ((tx [61, 56, 66])) 751, Value.str ((tx [61, 56, 67])) 755, Value.str ((tx [61, 56, 68])) 759, Value.str ((tx [61, 56, 69])) 763, Value.str ((tx [61, 56, 70])) 767, Value.str ((tx [61, 57, 48])) 771, Value.str ((tx [61, 57, 49])) 775, Value.str ((tx [61, 57, 50])) 779, Value.str ((tx [61, 57, 51])) 783, Value.str ((tx [61, 57, 52])) 787, Value.str ((tx [61, 57, 53])) 791, Value.str ((tx [61, 57, 54])) 795, Value.str ((tx [61, 57, 55])) 799, Value.str ((tx [61, 57, 56])) 803, Value.str ((tx [61, 57, 57])) 807, Value.str ((tx [61, 57, 65])) 811, Value.str ((tx [61, 57, 66])) 815, Value.str ((tx [61, 57, 67])) 819, Value.str ((tx [61, 57, 68])) 823, Value.str ((tx [61, 57, 69])) 827, Value.str ((tx [61, 57, 70])) 831, Value.str ((tx [61, 65, 48])) 835, Value.str ((tx [61, 65, 49])) 839, Value.str ((tx [61, 65, 50])) 843, Value.str ((tx [61, 65, 51])) 847, Value.str ((tx [61, 65, 52])) 851, Value.str ((tx [61, 65, 53])) 855, Value.str ((tx [61, 65, 54])) 859, Value.str ((tx [61, 65, 55])) 863, Value.str ((tx [61, 65, 56])) 867, Value.str ((tx [61, 65, 57])) 871, Value.str ((tx [61, 65, 65])) 875, Value.str ((tx [61, 65, 66])) 879, Value.str ((tx [61, 65, 67])) 883, Value.str ((tx [61, 65, 68])) 887, Value.str ((tx [61, 65, 69])) 891, Value.str ((tx [61, 65, 70])) 895, Value.str ((tx [61, 66, 48])) 899, Value.str ((tx [61, 66, 49])) 903, Value.str ((tx [61, 66, 50])) 907, Value.str ((tx [61, 66, 51])) 911, Value.str ((tx [61, 66, 52])) 915, Value.str ((tx [61, 66, 53])) 919, Value.str ((tx [61, 66, 54])) 923, Value.str ((tx [61, 66, 55])) 927, Value.str ((tx [61, 66, 56])) 931, Value.str ((tx [61, 66, 57])) 935, Value.str ((tx [61, 66, 65])) 939, Value.str ((tx [61, 66, 66])) 943, Value.str ((tx [61, 66, 67])) 947, Value.str ((tx [61, 66, 68])) 951, Value.str ((tx [61, 66, 69])) 955, Value.str ((tx [61, 66, 70])) 959, Value.str ((tx [61, 67, 48])) 963, Value.str ((tx [61, 67, 49])) 967, Value.str ((tx [61, 67, 50])) 971, Value.str ((tx [61, 67, 51])) 975, Value.str ((tx [61, 67, 52])) 979, Value.str ((tx [61, 67, 53])) 983, Value.str ((tx [61, 67, 54])) 987, Value.str ((tx [61, 67, 55])) 991, Value.str ((tx [61, 67, 56])) 995, Value.str ((tx [61, 67, 57])) 999, Value.str ((tx [61, 67, 65])) 1003, Value.str ((tx [61, 67, 66])) 1007, Value.str ((tx [61, 67, 67])) 1011, Value.str ((tx [61, 67, 68])) 1015, Value.str ((tx [61, 67, 69])) 1019, Value.str ((tx [61, 67, 70])) 1023, Value.str ((tx [61, 68, 48])) 1027, Value.str ((tx [61, 68, 49])) 1031, Value.str ((tx [61, 68, 50])) 1035, Value.str ((tx [61, 68, 51])) 1039, Value.str ((tx [61, 68, 52])) 1043, Value.str ((tx [61, 68, 53])) 1047, Value.str ((tx [61, 68, 54])) 1051, Value.str ((tx [61, 68, 55])) 1055, Value.str ((tx [61, 68, 56])) 1059, Value.str ((tx [61, 68, 57])) 1063, Value.str ((tx [61, 68, 65])) 1067, Value.str ((tx [61, 68, 66])) 1071, Value.str ((tx [61, 68, 67])) 1075, Value.str ((tx [61, 68, 68])) 1079, Value.str ((tx [61, 68, 69])) 1083, Value.str ((tx [61, 68, 70])) 1087, Value.str ((tx [61, 69, 48])) 1091, Value.str ((tx [61, 69, 49])) 1095, Value.str ((tx [61, 69, 50])) 1099, Value.str ((tx [61, 69, 51])) 1103, Value.str ((tx [61, 69, 52])) 1107, Value.str ((tx [61, 69, 53])) 1111, Value.str ((tx [61, 69, 54])) 1115, Value.str ((tx [61, 69, 55])) 1119, Value.str ((tx [61, 69, 56])) 1123, Value.str ((tx [61, 69, 57])) 1127, Value.str ((tx [61, 69, 65])) 1131, Value.str ((tx [61, 69, 66])) 1135, Value.str ((tx [61, 69, 67])) 1139, Value.str ((tx [61, 69, 68])) 1143, Value.str ((tx [61, 69, 69])) 1147, Value.str ((tx [61, 69, 70])) 1151, Value.str ((tx [61, 70, 48])) 1155, Value.str ((tx [61, 70, 49])) 1159, Value.str ((tx [61, 70, 50])) 1163, Value.str ((tx [61, 70, 51])) 1167, Value.str ((tx [61, 70, 52])) 1171, Value.str ((tx [61, 70, 53])) 1175, Value.str ((tx [61, 70, 54])) 1179, Value.str ((tx [61, 70, 55])) 1183, Value.str ((tx [61, 70, 56])) 1187, Value.str ((tx [61, 70, 57])) 1191, Value.str ((tx [61, 70, 65])) 1195, Value.str ((tx [61, 70, 66])) 1199, Value.str ((tx [61, 70, 67])) 1203, Value.str ((tx [61, 70, 68])) 1207, Value.str ((tx [61, 70, 69])) 1211, Value.str ((tx [61, 70, 70])) 1215] }
noncomputable def Sb (w : World) (os : OsState) : SharedT := ⟨bt ((fun P => [boot_o_0 P, boot_o_1 P, boot_o_2 P, stSb_3 P, boot_o_4 P, boot_o_5 P, boot_o_6 P, boot_o_7 P, boot_o_8 P, boot_o_9 P, boot_o_10 P, stSA_11 P, stSA_12 P, stSA_13 P, stSA_14 P, stS1_15 P, stS1_16 P, stS1_17 P, stS1_18 P, stS1_19 P, stS1_20 P, stSb_21 P, stSb_22 P, stSb_23 P, stSb_24 P]) w.params) 9 1 0, 25, (boot_heap w.params).life, Array.mk [], boot_drawn, 1234, os⟩
noncomputable def stS2_3 (P : Params) : Obj := { cls := Value.type "dict", data := Data.dict #[{ hash := PyData.keyHash P ((tx [95, 95, 110, 97, 109, 101, 95, 95])), key := Value.str ((tx [95, 95, 110, 97, 109, 101, 95, 95])) 165, val := Value.str ((tx [99, 112, 121, 51, 49, 51, 46, 101, 109, 97, 105, 108, 46, 113, 117, 111, 112, 114, 105, 109, 105, 109, 101])) 1232 }, { hash := PyData.keyHash P ((tx [95, 95, 100, 111, 99, 95, 95])), key := Value.str ((tx [95, 95, 100, 111, 99, 95, 95])) 166, val := Value.none }, { hash := PyData.keyHash P ((tx [95, 95, 112, 97, 99, 107, 97, 103, 101, 95, 95])), key := Value.str ((tx [95, 95, 112, 97, 99, 107, 97, 103, 101, 95, 95])) 167, val := Value.none }, { hash := PyData.keyHash P ((tx [95, 95, 108, 111, 97, 100, 101, 114, 95, 95])), key := Value.str ((tx [95, 95, 108, 111, 97, 100, 101, 114, 95, 95])) 168, val := Value.builtin "__main__.__loader__#opaque" }, { hash := PyData.keyHash P ((tx [95, 95, 115, 112, 101, 99, 95, 95])), key := Value.str ((tx [95, 95, 115, 112, 101, 99, 95, 95])) 169, val := Value.none }, { hash := PyData.keyHash P ((tx [95, 95, 97, 110, 110, 111, 116, 97, 116, 105, 111, 110, 115, 95, 95])), key := Value.str ((tx [95, 95, 97, 110, 110, 111, 116, 97, 116, 105, 111, 110, 115, 95, 95])) 170, val := Value.ref 6 }, { hash := PyData.keyHash P ((tx [95, 95, 98, 117, 105, 108, 116, 105, 110, 115, 95, 95])), key := Value.str ((tx [95, 95, 98, 117, 105, 108, 116, 105, 110, 115, 95, 95])) 171, val := Value.ref 4 }, { hash := PyData.keyHash P ((tx [95, 95, 102, 105, 108, 101, 95, 95])), key := Value.str ((tx [95, 95, 102, 105, 108, 101, 95, 95])) 173, val := Value.str ((tx [47, 99, 108, 97, 105, 109, 47, 99, 117, 116, 46, 112, 121])) 172 }, { hash := PyData.keyHash P ((tx [95, 95, 99, 97, 99, 104, 101, 100, 95, 95])), key := Value.str ((tx [95, 95, 99, 97, 99, 104, 101, 100, 95, 95])) 174, val := Value.none }, { hash := PyData.keyHash P ((tx [78, 76])), key := Value.str ((tx [78, 76])) 188, val := Value.str ((tx [10])) 187 }, { hash := PyData.keyHash P ((tx [95, 81, 85, 79, 80, 82, 73, 95, 77, 65, 80])), key := Value.str ((tx [95, 81, 85, 79, 80, 82, 73, 95, 77, 65, 80])) 1216, val := Value.ref 17 }, { hash := PyData.keyHash P ((tx [95, 81, 85, 79, 80, 82, 73, 95, 72, 69, 65, 68, 69, 82, 95, 77, 65, 80])), key := Value.str ((tx [95, 81, 85, 79, 80, 82, 73, 95, 72, 69, 65, 68, 69, 82, 95, 77, 65, 80])) 1217, val := Value.ref 22 }, { hash := PyData.keyHash P ((tx [95, 81, 85, 79, 80, 82, 73, 95, 66, 79, 68, 89, 95, 77, 65, 80])), key := Value.str ((tx [95, 81, 85, 79, 80, 82, 73, 95, 66, 79, 68, 89, 95, 77, 65, 80])) 1218, val := Value.ref 24 }, { hash := PyData.keyHash P ((tx [97, 115, 99, 105, 105, 95, 108, 111, 119, 101, 114, 99, 97, 115, 101])), key := Value.str ((tx [97, 115, 99, 105, 105, 95, 108, 111, 119, 101, 114, 99, 97, 115, 101])) 1220, val := Value.str ((tx [97, 98, 99, 100, 101, 102, 103, 104, 105, 106, 107, 108, 109, 110, 111, 112, 113, 114, 115, 116, 117, 118, 119, 120, 121, 122])) 1219 }, { hash := PyData.keyHash P ((tx [97, 115, 99, 105, 105, 95, 117, 112, 112, 101, 114, 99, 97, 115, 101])), key := Value.str ((tx [97, 115, 99, 105, 105, 95, 117, 112, 112, 101, 114, 99, 97, 115, 101])) 1222, val := Value.str ((tx [65, 66, 67, 68, 69, 70, 71, 72, 73, 74, 75, 76, 77, 78, 79, 80, 81, 82, 83, 84, 85, 86, 87, 88, 89, 90])) 1221 }, { hash := PyData.keyHash P ((tx [97, 115, 99, 105, 105, 95, 108, 101, 116, 116, 101, 114, 115])), key := Value.str ((tx [97, 115, 99, 105, 105, 95, 108, 101, 116, 116, 101, 114, 115])) 1224, val := Value.str ((tx [97, 98, 99, 100, 101, 102, 103, 104, 105, 106, 107, 108, 109, 110, 111, 112, 113, 114, 115, 116, 117, 118, 119, 120, 121, 122, 65, 66, 67, 68, 69, 70, 71, 72, 73, 74, 75, 76, 77, 78, 79, 80, 81, 82, 83, 84, 85, 86, 87, 88, 89, 90])) 1223 }, { hash := PyData.keyHash P ((tx [100, 105, 103, 105, 116, 115])), key := Value.str ((tx [100, 105, 103, 105, 116, 115])) 1226, val := Value.str ((tx [48, 49, 50, 51, 52, 53, 54, 55, 56, 57])) 1225 }, { hash := PyData.keyHash P ((tx [104, 101, 120, 100, 105, 103, 105, 116, 115])), key := Value.str ((tx [104, 101, 120, 100, 105, 103, 105, 116, 115])) 1231, val := Value.str ((tx [48, 49, 50, 51, 52, 53, 54, 55, 56, 57, 97, 98, 99, 100, 101, 102, 65, 66, 67, 68, 69, 70])) 1230 }, { hash := PyData.keyHash P ((tx [99])), key := Value.str ((tx [99])) 1242, val := Value.int 57 1439 }] 19 }
noncomputable def stS2_22 (P : Params) : Obj := { cls := Value.type "list", data := Data.seq #[Value.str ((tx [61, 48, 48])) 195, Value.str ((tx [61, 48, 49])) 199, Value.str ((tx [61, 48, 50])) 203, Value.str ((tx [61, 48, 51])) 207, Value.str ((tx [61, 48, 52])) 211, Value.str ((tx [61, 48, 53])) 215, Value.str ((tx [61, 48, 54])) 219, Value.str ((tx [61, 48, 55])) 223, Value.str ((tx [61, 48, 56])) 227, Value.str ((tx [61, 48, 57])) 231, Value.str ((tx [61, 48, 65])) 235, Value.str ((tx [61, 48, 66])) 239, Value.str ((tx [61, 48, 67])) 243, Value.str ((tx [61, 48, 68])) 247, Value.str ((tx [61, 48, 69])) 251, Value.str ((tx [61, 48, 70])) 255, Value.str ((tx [61, 49, 48])) 259, Value.str ((tx [61, 49, 49])) 263, Value.str ((tx [61, 49, 50])) 267, Value.str ((tx [61, 49, 51])) 271, Value.str ((tx [61, 49, 52])) 275, Value.str ((tx [61, 49, 53])) 279, Value.str ((tx [61, 49, 54])) 283, Value.str ((tx [61, 49, 55])) 287, Value.str ((tx [61, 49, 56])) 291, Value.str ((tx [61, 49, 57])) 295, Value.str ((tx [61, 49, 65])) 299, Value.str ((tx [61, 49, 66])) 303, Value.str ((tx [61, 49, 67])) 307, Value.str ((tx [61, 49, 68])) 311, Value.str ((tx [61, 49, 69])) 315, Value.str ((tx [61, 49, 70])) 319, Value.str ((tx [61, 50, 48])) 323, Value.str ((tx [33])) 1246, Value.str ((tx [61, 50, 50])) 331, Value.str ((tx [61, 50, 51])) 335, Value.str ((tx [61, 50, 52])) 339, Value.str ((tx [61, 50, 53])) 343, Value.str ((tx [61, 50, 54])) 347, Value.str ((tx [61, 50, 55])) 351, Value.str ((tx [61, 50, 56])) 355, Value.str ((tx [61, 50, 57])) 359, Value.str ((tx [42])) 1249, Value.str ((tx [43])) 1252, Value.str ((tx [61, 50, 67])) 371, Value.str ((tx [45])) 1243, Value.str ((tx [61, 50, 69])) 379, Value.str ((tx [47])) 1255, Value.str ((tx [48])) 1414, Value.str ((tx [49])) 1417, Value.str ((tx [50])) 1420, Value.str ((tx [51])) 1423, Value.str ((tx [52])) 1426, Value.str ((tx [53])) 1429, Value.str ((tx [54])) 1432, Value.str ((tx [55])) 1435, Value.str ((tx [56])) 1438, Value.str ((tx [57])) 1441, Value.str ((tx [61, 51, 65])) 427, Value.str ((tx [61, 51, 66])) 431, Value.str ((tx [61, 51, 67])) 435, Value.str ((tx [61, 51, 68])) 439, Value.str ((tx [61, 51, 69])) 443, Value.str ((tx [61, 51, 70])) 447, Value.str ((tx [61, 52, 48])) 451, Value.str ((tx [65])) 1336, Value.str ((tx [66])) 1339, Value.str ((tx [67])) 1342, Value.str ((tx [68])) 1345, Value.str ((tx [69])) 1348, Value.str ((tx [70])) 1351, Value.str ((tx [71])) 1354, Value.str ((tx [72])) 1357, Value.str ((tx [73])) 1360, Value.str ((tx [74])) 1363, Value.str ((tx [75])) 1366, Value.str ((tx [76])) 1369, Value.str ((tx [77])) 1372, Value.str ((tx [78])) 1375, Value.str ((tx [79])) 1378, Value.str ((tx [80])) 1381, Value.str ((tx [81])) 1384, Value.str ((tx [82])) 1387, Value.str ((tx [83])) 1390, Value.str ((tx [84])) 1393, Value.str ((tx [85])) 1396, Value.str ((tx [86])) 1399, Value.str ((tx [87])) 1402, Value.str ((tx [88])) 1405, Value.str ((tx [89])) 1408, Value.str ((tx [90])) 1411, Value.str ((tx [61, 53, 66])) 559, Value.str ((tx [61, 53, 67])) 563, Value.str ((tx [61, 53, 68])) 567, Value.str ((tx [61, 53, 69])) 571, Value.str ((tx [61, 53, 70])) 575, Value.str ((tx [61, 54, 48])) 579, Value.str ((tx [97])) 1258, Value.str ((tx [98])) 1261, Value.str ((tx [99])) 1264, Value.str ((tx [100])) 1267, Value.str ((tx [101])) 1270, Value.str ((tx [102])) 1273, Value.str ((tx [103])) 1276, Value.str ((tx [104])) 1279, Value.str ((tx [105])) 1282, Value.str ((tx [106])) 1285, Value.str ((tx [107])) 1288, Value.str ((tx [108])) 1291, Value.str ((tx [109])) 1294, Value.str ((tx [110])) 1297, Value.str ((tx [111])) 1300, Value.str ((tx [112])) 1303, Value.str ((tx [113])) 1306, Value.str ((tx [114])) 1309, Value.str ((tx [115])) 1312, Value.str ((tx [116])) 1315, Value.str ((tx [117])) 1318, Value.str ((tx [118])) 1321, Value.str ((tx [119])) 1324, Value.str ((tx [120])) 1327, Value.str ((tx [121])) 1330, Value.str ((tx [122])) 1333, Value.str ((tx [61, 55, 66])) 687, Value.str ((tx [61, 55, 67])) 691, Value.str ((tx [61, 55, 68])) 695, Value.str ((tx [61, 55, 69])) 699, Value.str ((tx [61, 55, 70])) 703, Value.str ((tx [61, 56, 48])) 707, Value.str ((tx [61, 56, 49])) 711, Value.str ((tx [61, 56, 50])) 715, Value.str ((tx [61, 56, 51])) 719, Value.str ((tx [61, 56, 52])) 723, Value.str ((tx [61, 56, 53])) 727, Value.str ((tx [61, 56, 54])) 731, Value.str ((tx [61, 56, 55])) 735, Value.str ((tx [61, 56, 56])) 739, Value.str ((tx [61, 56, 57])) 743, Value.str ((tx [61, 56, 65])) 747, Value.str ((tx [61, 56, 66])) 751, Value.str ((tx [61, 56, 67])) 755, Value.str ((tx [61, 56, 68])) 759, Value.str ((tx [61, 56, 69])) 763, Value.str ((tx [61, 56, 70])) 767, Value.str ((tx [61, 57, 48])) 771, Value.str ((tx [61, 57, 49])) 775, Value.str ((tx [61, 57, 50])) 779, Value.str ((tx [61, 57, 51])) 783, Value.str ((tx [61, 57, 52])) 787, Value.str ((tx [61, 57, 53])) 791, Value.str ((tx [61, 57, 54])) 795, Value.str ((tx [61, 57, 55])) 799, Value.str ((tx [61, 57, 56])) 803, Value.str ((tx [61, 57, 57])) 807, Value.str ((tx [61, 57, 65])) 811, Value.str ((tx [61, 57, 66])) 815, Value.str ((tx [61, 57, 67])) 819, Value.str ((tx [61, 57, 68])) 823, Value.str ((tx [61, 57, 69])) 827, Value.str ((tx [61, 57, 70])) 831, Value.str ((tx [61, 65, 48])) 835, Value.str ((tx [61, 65, 49])) 839, Value.str ((tx [61, 65, 50])) 843, Value.str ((tx [61, 65, 51])) 847, Value.str ((tx [61, 65, 52])) 851, Value.str ((tx [61, 65, 53])) 855, Value.str ((tx [61, 65, 54])) 859, Value.str ((tx [61, 65, 55])) 863, Value.str ((tx [61, 65, 56])) 867, Value.str ((tx [61, 65, 57])) 871, Value.str ((tx [61, 65, 65])) 875, Value.str ((tx [61, 65, 66])) 879, Value.str ((tx [61, 65, 67])) 883, Value.str ((tx [61, 65, 68])) 887, Value.str ((tx [61, 65, 69])) 891, Value.str ((tx [61, 65, 70])) 895, Value.str ((tx [61, 66, 48])) 899, Value.str ((tx [61, 66, 49])) 903, Value.str ((tx [61, 66, 50])) 907, Value.str ((tx [61, 66, 51])) 911, Value.str ((tx [61, 66, 52])) 915, Value.str ((tx [61, 66, 53])) 919, Value.str ((tx [61, 66, 54])) 923, Value.str ((tx [61, 66, 55])) 927, Value.str ((tx [61, 66, 56])) 931, Value.str ((tx [61, 66, 57])) 935, Value.str ((tx [61, 66, 65])) 939, Value.str ((tx [61, 66, 66])) 943, Value.str ((tx [61, 66, 67])) 947, Value.str ((tx [61, 66, 68])) 951, Value.str ((tx [61, 66, 69])) 955, Value.str ((tx [61, 66, 70])) 959, Value.str ((tx [61, 67, 48])) 963, Value.str ((tx [61, 67, 49])) 967, Value.str ((tx [61, 67, 50])) 971, Value.str ((tx [61, 67, 51])) 975, Value.str ((tx [61, 67, 52])) 979, Value.str ((tx [61, 67, 53])) 983, Value.str ((tx [61, 67, 54])) 987, Value.str ((tx [61, 67, 55])) 991, Value.str ((tx [61, 67, 56])) 995, Value.str ((tx [61, 67, 57])) 999, Value.str ((tx [61, 67, 65])) 1003, Value.str ((tx [61, 67, 66])) 1007, Value.str ((tx [61, 67, 67])) 1011, Value.str ((tx [61, 67, 68])) 1015, Value.str ((tx [61, 67, 69])) 1019, Value.str ((tx [61, 67, 70])) 1023, Value.str ((tx [61, 68, 48])) 1027, Value.str ((tx [61, 68, 49])) 1031, Value.str ((tx [61, 68, 50])) 1035, Value.str ((tx [61, 68, 51])) 1039, Value.str ((tx [61, 68, 52])) 1043, Value.str ((tx [61, 68, 53])) 1047, Value.str ((tx [61, 68, 54])) 1051, Value.str ((tx [61, 68, 55])) 1055, Value.str ((tx [61, 68, 56])) 1059, Value.str ((tx [61, 68, 57])) 1063, Value.str ((tx [61, 68, 65])) 1067, Value.str ((tx [61, 68, 66])) 1071, Value.str ((tx [61, 68, 67])) 1075, Value.str ((tx [61, 68, 68])) 1079, Value.str ((tx [61, 68, 69])) 1083, Value.str ((tx [61, 68, 70])) 1087, Value.str ((tx [61, 69, 48])) 1091, Value.str ((tx [61, 69, 49])) 1095, Value.str ((tx [61, 69, 50])) 1099, Value.str ((tx [61, 69, 51])) 1103, Value.str ((tx [61, 69, 52])) 1107, Value.str ((tx [61, 69, 53])) 1111, Value.str ((tx [61, 69, 54])) 1115, Value.str ((tx [61, 69, 55])) 1119, Value.str ((tx [61, 69, 56])) 1123, Value.str ((tx [61, 69, 57])) 1127, Value.str ((tx [61, 69, 65])) 1131, Value.str ((tx [61, 69, 66])) 1135, Value.str ((tx [61, 69, 67])) 1139, Value.str ((tx [61, 69, 68])) 1143, Value.str ((tx [61, 69, 69])) 1147, Value.str ((tx [61, 69, 70])) 1151, Value.str ((tx [61, 70, 48])) 1155, Value.str ((tx [61, 70, 49])) 1159, Value.str ((tx [61, 70, 50])) 1163, Value.str ((tx [61, 70, 51])) 1167, Value.str ((tx [61, 70, 52])) 1171, Value.str ((tx [61, 70, 53])) 1175, Value.str ((tx [61, 70, 54])) 1179, Value.str ((tx [61, 70, 55])) 1183, Value.str ((tx [61, 70, 56])) 1187, Value.str ((tx [61, 70, 57])) 1191, Value.str ((tx [61, 70, 65])) 1195, Value.str ((tx [61, 70, 66])) 1199, Value.str ((tx [61, 70, 67])) 1203, Value.str ((tx [61, 70, 68])) 1207, Value.str ((tx [61, 70, 69])) 1211, Value.str ((tx [61, 70, 70])) 1215] }
noncomputable def stS2_25 (P : Params) : Obj := { cls := Value.type "bytes_iterator", data := Data.fields #[Value.none, Value.int 67 0] }
noncomputable def stS2_26 (P : Params) : Obj := { cls := Value.type "tuple", data := Data.seq #[] }
noncomputable def stS2_27 (P : Params) : Obj := { cls := Value.type "StopIteration", data := Data.fields #[Value.ref 26, Value.none, Value.none, Value.none, Value.bool false, Value.none] }
noncomputable def S2 (w : World) (os : OsState) : SharedT := ⟨bt ((fun P => [boot_o_0 P, boot_o_1 P, boot_o_2 P, stS2_3 P, boot_o_4 P, boot_o_5 P, boot_o_6 P, boot_o_7 P, boot_o_8 P, boot_o_9 P, boot_o_10 P, stSA_11 P, stSA_12 P, stSA_13 P, stSA_14 P, stS1_15 P, stS1_16 P, stS1_17 P, stS1_18 P, stS1_19 P, stS1_20 P, stSb_21 P, stS2_22 P, stSb_23 P, stSb_24 P, stS2_25 P, stS2_26 P, stS2_27 P]) w.params) 9 1 0, 28, (boot_heap w.params).life, Array.mk [], boot_drawn, 1442, os⟩
noncomputable def stS3_3 (P : Params) : Obj := { cls := Value.type "dict", data := Data.dict #[{ hash := PyData.keyHash P ((tx [95, 95, 110, 97, 109, 101, 95, 95])), key := Value.str ((tx [95, 95, 110, 97, 109, 101, 95, 95])) 165, val := Value.str ((tx [99, 112, 121, 51, 49, 51, 46, 101, 109, 97, 105, 108, 46, 113, 117, 111, 112, 114, 105, 109, 105, 109, 101])) 1232 }, { hash := PyData.keyHash P ((tx [95, 95, 100, 111, 99, 95, 95])), key := Value.str ((tx [95, 95, 100, 111, 99, 95, 95])) 166, val := Value.none }, { hash := PyData.keyHash P ((tx [95, 95, 112, 97, 99, 107, 97, 103, 101, 95, 95])), key := Value.str ((tx [95, 95, 112, 97, 99, 107, 97, 103, 101, 95, 95])) 167, val := Value.none }, { hash := PyData.keyHash P ((tx [95, 95, 108, 111, 97, 100, 101, 114, 95, 95])), key := Value.str ((tx [95, 95, 108, 111, 97, 100, 101, 114, 95, 95])) 168, val := Value.builtin "__main__.__loader__#opaque" }, { hash := PyData.keyHash P ((tx [95, 95, 115, 112, 101, 99, 95, 95])), key := Value.str ((tx [95, 95, 115, 112, 101, 99, 95, 95])) 169, val := Value.none }, { hash := PyData.keyHash P ((tx [95, 95, 97, 110, 110, 111, 116, 97, 116, 105, 111, 110, 115, 95, 95])), key := Value.str ((tx [95, 95, 97, 110, 110, 111, 116, 97, 116, 105, 111, 110, 115, 95, 95])) 170, val := Value.ref 6 }, { hash := PyData.keyHash P ((tx [95, 95, 98, 117, 105, 108, 116, 105, 110, 115, 95, 95])), key := Value.str ((tx [95, 95, 98, 117, 105, 108, 116, 105, 110, 115, 95, 95])) 171, val := Value.ref 4 }, { hash := PyData.keyHash P ((tx [95, 95, 102, 105, 108, 101, 95, 95])), key := Value.str ((tx [95, 95, 102, 105, 108, 101, 95, 95])) 173, val := Value.str ((tx [47, 99, 108, 97, 105, 109, 47, 99, 117, 116, 46, 112, 121])) 172 }, { hash := PyData.keyHash P ((tx [95, 95, 99, 97, 99, 104, 101, 100, 95, 95])), key := Value.str ((tx [95, 95, 99, 97, 99, 104, 101, 100, 95, 95])) 174, val := Value.none }, { hash := PyData.keyHash P ((tx [78, 76])), key := Value.str ((tx [78, 76])) 188, val := Value.str ((tx [10])) 187 }, { hash := PyData.keyHash P ((tx [95, 81, 85, 79, 80, 82, 73, 95, 77, 65, 80])), key := Value.str ((tx [95, 81, 85, 79, 80, 82, 73, 95, 77, 65, 80])) 1216, val := Value.ref 17 }, { hash := PyData.keyHash P ((tx [95, 81, 85, 79, 80, 82, 73, 95, 72, 69, 65, 68, 69, 82, 95, 77, 65, 80])), key := Value.str ((tx [95, 81, 85, 79, 80, 82, 73, 95, 72, 69, 65, 68, 69, 82, 95, 77, 65, 80])) 1217, val := Value.ref 22 }, { hash := PyData.keyHash P ((tx [95, 81, 85, 79, 80, 82, 73, 95, 66, 79, 68, 89, 95, 77, 65, 80])), key := Value.str ((tx [95, 81, 85, 79, 80, 82, 73, 95, 66, 79, 68, 89, 95, 77, 65, 80])) 1218, val := Value.ref 24 }, { hash := PyData.keyHash P ((tx [97, 115, 99, 105, 105, 95, 108, 111, 119, 101, 114, 99, 97, 115, 101])), key := Value.str ((tx [97, 115, 99, 105, 105, 95, 108, 111, 119, 101, 114, 99, 97, 115, 101])) 1220, val := Value.str ((tx [97, 98, 99, 100, 101, 102, 103, 104, 105, 106, 107, 108, 109, 110, 111, 112, 113, 114, 115, 116, 117, 118, 119, 120, 121, 122])) 1219 }, { hash := PyData.keyHash P ((tx [97, 115, 99, 105, 105, 95, 117, 112, 112, 101, 114, 99, 97, 115, 101])), key := Value.str ((tx [97, 115, 99, 105, 105, 95, 117, 112, 112, 101, 114, 99, 97, 115, 101])) 1222, val := Value.str ((tx [65, 66, 67, 68, 69, 70, 71, 72, 73, 74, 75, 76, 77, 78, 79, 80, 81, 82, 83, 84, 85, 86, 87, 88, 89, 90])) 1221 }, { hash := PyData.keyHash P ((tx [97, 115, 99, 105, 105, 95, 108, 101, 116, 116, 101, 114, 115])), key := Value.str ((tx [97, 115, 99, 105, 105, 95, 108, 101, 116, 116, 101, 114, 115])) 1224, val := Value.str ((tx [97, 98, 99, 100, 101, 102, 103, 104, 105, 106, 107, 108, 109, 110, 111, 112, 113, 114, 115, 116, 117, 118, 119, 120, 121, 122, 65, 66, 67, 68, 69, 70, 71, 72, 73, 74, 75, 76, 77, 78, 79, 80, 81, 82, 83, 84, 85, 86, 87, 88, 89, 90])) 1223 }, { hash := PyData.keyHash P ((tx [100, 105, 103, 105, 116, 115])), key := Value.str ((tx [100, 105, 103, 105, 116, 115])) 1226, val := Value.str ((tx [48, 49, 50, 51, 52, 53, 54, 55, 56, 57])) 1225 }, { hash := PyData.keyHash P ((tx [104, 101, 120, 100, 105, 103, 105, 116, 115])), key := Value.str ((tx [104, 101, 120, 100, 105, 103, 105, 116, 115])) 1231, val := Value.str ((tx [48, 49, 50, 51, 52, 53, 54, 55, 56, 57, 97, 98, 99, 100, 101, 102, 65, 66, 67, 68, 69, 70])) 1230 }, { hash := PyData.keyHash P ((tx [99])), key := Value.str ((tx [99])) 1242, val := Value.int 9 1728 }] 19 }
noncomputable def stS3_22 (P : Params) : Obj := { cls := Value.type "list", data := Data.seq #[Value.str ((tx [61, 48, 48])) 195, Value.str ((tx [61, 48, 49])) 199, Value.str ((tx [61, 48, 50])) 203, Value.str ((tx [61, 48, 51])) 207, Value.str ((tx [61, 48, 52])) 211, Value.str ((tx [61, 48, 53])) 215, Value.str ((tx [61, 48, 54])) 219, Value.str ((tx [61, 48, 55])) 223, Value.str ((tx [61, 48, 56])) 227, Value.str ((tx [61, 48, 57])) 231, Value.str ((tx [61, 48, 65])) 235, Value.str ((tx [61, 48, 66])) 239, Value.str ((tx [61, 48, 67])) 243, Value.str ((tx [61, 48, 68])) 247, Value.str ((tx [61, 48, 69])) 251, Value.str ((tx [61, 48, 70])) 255, Value.str ((tx [61, 49, 48])) 259, Value.str ((tx [61, 49, 49])) 263, Value.str ((tx [61, 49, 50])) 267, Value.str ((tx [61, 49, 51])) 271, Value.str ((tx [61, 49, 52])) 275, Value.str ((tx [61, 49, 53])) 279, Value.str ((tx [61, 49, 54])) 283, Value.str ((tx [61, 49, 55])) 287, Value.str ((tx [61, 49, 56])) 291, Value.str ((tx [61, 49, 57])) 295, Value.str ((tx [61, 49, 65])) 299, Value.str ((tx [61, 49, 66])) 303, Value.str ((tx [61, 49, 67])) 307, Value.str ((tx [61, 49, 68])) 311, Value.str ((tx [61, 49, 69])) 315, Value.str ((tx [61, 49, 70])) 319, Value.str ((tx [95])) 1442, Value.str ((tx [33])) 1246, Value.str ((tx [61, 50, 50])) 331, Value.str ((tx [61, 50, 51])) 335, Value.str ((tx [61, 50, 52])) 339, Value.str ((tx [61, 50, 53])) 343, Value.str ((tx [61, 50, 54])) 347, Value.str ((tx [61, 50, 55])) 351, Value.str ((tx [61, 50, 56])) 355, Value.str ((tx [61, 50, 57])) 359, Value.str ((tx [42])) 1249, Value.str ((tx [43])) 1252, Value.str ((tx [61, 50, 67])) 371, Value.str ((tx [45])) 1243, Value.str ((tx [61, 50, 69])) 379, Value.str ((tx [47])) 1255, Value.str ((tx [48])) 1414, Value.str ((tx [49])) 1417, Value.str ((tx [50])) 1420, Value.str ((tx [51])) 1423, Value.str ((tx [52])) 1426, Value.str ((tx [53])) 1429, Value.str ((tx [54])) 1432, Value.str ((tx [55])) 1435, Value.str ((tx [56])) 1438, Value.str ((tx [57])) 1441, Value.str ((tx [61, 51, 65])) 427, Value.str ((tx [61, 51, 66])) 431, Value.str ((tx [61, 51, 67])) 435, Value.str ((tx [61, 51, 68])) 439, Value.str ((tx [61, 51, 69])) 443, Value.str ((tx [61, 51, 70])) 447, Value.str ((tx [61, 52, 48])) 451, Value.str ((tx [65])) 1336, Value.str ((tx [66])) 1339, Value.str ((tx [67])) 1342, Value.str ((tx [68])) 1345, Value.str ((tx [69])) 1348, Value.str ((tx [70])) 1351, Value.str ((tx [71])) 1354, Value.str ((tx [72])) 1357, Value.str ((tx [73])) 1360, Value.str ((tx [74])) 1363, Value.str ((tx [75])) 1366, Value.str ((tx [76])) 1369, Value.str ((tx [77])) 1372, Value.str ((tx [78])) 1375, Value.str ((tx [79])) 1378, Value.str ((tx [80])) 1381, Value.str ((tx [81])) 1384, Value.str ((tx [82])) 1387, Value.str ((tx [83])) 1390, Value.str ((tx [84])) 1393, Value.str ((tx [85])) 1396, Value.str ((tx [86])) 1399, Value.str ((tx [87])) 1402, Value.str ((tx [88])) 1405, Value.str ((tx [89])) 1408, Value.str ((tx [90])) 1411, Value.str ((tx [61, 53, 66])) 559, Value.str ((tx [61, 53, 67])) 563, Value.str ((tx [61, 53, 68])) 567, Value.str ((tx [61, 53, 69])) 571, Value.str ((tx [61, 53, 70])) 575, Value.str ((tx [61, 54, 48])) 579, Value.str ((tx [97])) 1258, Value.str ((tx [98])) 1261, Value.str ((tx [99])) 1264, Value.str ((tx [100])) 1267, Value.str ((tx [101])) 1270, Value.str ((tx [102])) 1273, Value.str ((tx [103])) 1276, Value.str ((tx [104])) 1279, Value.str ((tx [105])) 1282, Value.str ((tx [106])) 1285, Value.str ((tx [107])) 1288, Value.str ((tx [108])) 1291, Value.str ((tx [109])) 1294, Value.str ((tx [110])) 1297, Value.str ((tx [111])) 1300, Value.str ((tx [112])) 1303, Value.str ((tx [113])) 1306, Value.str ((tx [114])) 1309, Value.str ((tx [115])) 1312, Value.str ((tx [116])) 1315, Value.str ((tx [117])) 1318, Value.str ((tx [118])) 1321, Value.str ((tx [119])) 1324, Value.str ((tx [120])) 1327, Value.str ((tx [121])) 1330, Value.str ((tx [122])) 1333, Value.str ((tx [61, 55, 66])) 687, Value.str ((tx [61, 55, 67])) 691, Value.str ((tx [61, 55, 68])) 695, Value.str ((tx [61, 55, 69])) 699, Value.str ((tx [61, 55, 70])) 703, Value.str ((tx [61, 56, 48])) 707, Value.str ((tx [61, 56, 49])) 711, Value.str ((tx [61, 56, 50])) 715, Value.str ((tx [61, 56, 51])) 719, Value.str ((tx [61, 56, 52])) 723, Value.str ((tx [61, 56, 53])) 727, Value.str ((tx [61, 56, 54])) 731, Value.str ((tx [61, 56, 55])) 735, Value.str ((tx [61, 56, 56])) 739, Value.str ((tx [61, 56, 57])) 743, Value.str ((tx [61, 56, 65])) 747, Value.str ((tx [61, 56, 66])) 751, Value.str ((tx [61, 56, 67])) 755, Value.str ((tx [61, 56, 68])) 759, Value.str ((tx [61, 56, 69])) 763, Value.str ((tx [61, 56, 70])) 767, Value.str ((tx [61, 57, 48])) 771, Value.str ((tx [61, 57, 49])) 775, Value.str ((tx [61, 57, 50])) 779, Value.str ((tx [61, 57, 51])) 783, Value.str ((tx [61, 57, 52])) 787, Value.str ((tx [61, 57, 53])) 791, Value.str ((tx [61, 57, 54])) 795, Value.str ((tx [61, 57, 55])) 799, Value.str ((tx [61, 57, 56])) 803, Value.str ((tx [61, 57, 57])) 807, Value.str ((tx [61, 57, 65])) 811, Value.str ((tx [61, 57, 66])) 815, Value.str ((tx [61, 57, 67])) 819, Value.str ((tx [61, 57, 68])) 823, Value.str ((tx [61, 57, 69])) 827, Value.str ((tx [61, 57, 70])) 831, Value.str ((tx [61, 65, 48])) 835, Value.str ((tx [61, 65, 49])) 839, Value.str ((tx [61, 65, 50])) 843, Value.str ((tx [61, 65, 51])) 847, Value.str ((tx [61, 65, 52])) 851, Value.str ((tx [61, 65, 53])) 855, Value.str ((tx [61, 65, 54])) 859, Value.str ((tx [61, 65, 55])) 863, Value.str ((tx [61, 65, 56])) 867, Value.str ((tx [61, 65, 57])) 871, Value.str ((tx [61, 65, 65])) 875, Value.str ((tx [61, 65, 66])) 879, Value.str ((tx [61, 65, 67])) 883, Value.str ((tx [61, 65, 68])) 887, Value.str ((tx [61, 65, 69])) 891, Value.str ((tx [61, 65, 70])) 895, Value.str ((tx [61, 66, 48])) 899, Value.str ((tx [61, 66, 49])) 903, Value.str ((tx [61, 66, 50])) 907, Value.str ((tx [61, 66, 51])) 911, Value.str ((tx [61, 66, 52])) 915, Value.str ((tx [61, 66, 53])) 919, Value.str ((tx [61, 66, 54])) 923, Value.str ((tx [61, 66, 55])) 927, Value.str ((tx [61, 66, 56])) 931, Value.str ((tx [61, 66, 57])) 935, Value.str ((tx [61, 66, 65])) 939, Value.str ((tx [61, 66, 66])) 943, Value.str ((tx [61, 66, 67])) 947, Value.str ((tx [61, 66, 68])) 951, Value.str ((tx [61, 66, 69])) 955, Value.str ((tx [61, 66, 70])) 959, Value.str ((tx [61, 67, 48])) 963, Value.str ((tx [61, 67, 49])) 967, Value.str ((tx [61, 67, 50])) 971, Value.str ((tx [61, 67, 51])) 975, Value.str ((tx [61, 67, 52])) 979, Value.str ((tx [61, 67, 53])) 983, Value.str ((tx [61, 67, 54])) 987, Value.str ((tx [61, 67, 55])) 991, Value.str ((tx [61, 67, 56])) 995, Value.str ((tx [61, 67, 57])) 999, Value.str ((tx [61, 67, 65])) 1003, Value.str ((tx [61, 67, 66])) 1007, Value.str ((tx [61, 67, 67])) 1011, Value.str ((tx [61, 67, 68])) 1015, Value.str ((tx [61, 67, 69])) 1019, Value.str ((tx [61, 67, 70])) 1023, Value.str ((tx [61, 68, 48])) 1027, Value.str ((tx [61, 68, 49])) 1031, Value.str ((tx [61, 68, 50])) 1035, Value.str ((tx [61, 68, 51])) 1039, Value.str ((tx [61, 68, 52])) 1043, Value.str ((tx [61, 68, 53])) 1047, Value.str ((tx [61, 68, 54])) 1051, Value.str ((tx [61, 68, 55])) 1055, Value.str ((tx [61, 68, 56])) 1059, Value.str ((tx [61, 68, 57])) 1063, Value.str ((tx [61, 68, 65])) 1067, Value.str ((tx [61, 68, 66])) 1071, Value.str ((tx [61, 68, 67])) 1075, Value.str ((tx [61, 68, 68])) 1079, Value.str ((tx [61, 68, 69])) 1083, Value.str ((tx [61, 68, 70])) 1087, Value.str ((tx [61, 69, 48])) 1091, Value.str ((tx [61, 69, 49])) 1095, Value.str ((tx [61, 69, 50])) 1099, Value.str ((tx [61, 69, 51])) 1103, Value.str ((tx [61, 69, 52])) 1107, Value.str ((tx [61, 69, 53])) 1111, Value.str ((tx [61, 69, 54])) 1115, Value.str ((tx [61, 69, 55])) 1119, Value.str ((tx [61, 69, 56])) 1123, Value.str ((tx [61, 69, 57])) 1127, Value.str ((tx [61, 69, 65])) 1131, Value.str ((tx [61, 69, 66])) 1135, Value.str ((tx [61, 69, 67])) 1139, Value.str ((tx [61, 69, 68])) 1143, Value.str ((tx [61, 69, 69])) 1147, Value.str ((tx [61, 69, 70])) 1151, Value.str ((tx [61, 70, 48])) 1155, Value.str ((tx [61, 70, 49])) 1159, Value.str ((tx [61, 70, 50])) 1163, Value.str ((tx [61, 70, 51])) 1167, Value.str ((tx [61, 70, 52])) 1171, Value.str ((tx [61, 70, 53])) 1175, Value.str ((tx [61, 70, 54])) 1179, Value.str ((tx [61, 70, 55])) 1183, Value.str ((tx [61, 70, 56])) 1187, Value.str ((tx [61, 70, 57])) 1191, Value.str ((tx [61, 70, 65])) 1195, Value.str ((tx [61, 70, 66])) 1199, Value.str ((tx [61, 70, 67])) 1203, Value.str ((tx [61, 70, 68])) 1207, Value.str ((tx [61, 70, 69])) 1211, Value.str ((tx [61, 70, 70])) 1215] }
noncomputable def stS3_24 (P : Params) : Obj := { cls := Value.type "list", data := Data.seq #[Value.str ((tx [61, 48, 48])) 195, Value.str ((tx [61, 48, 49])) 199, Value.str ((tx [61, 48, 50])) 203, Value.str ((tx [61, 48, 51])) 207, Value.str ((tx [61, 48, 52])) 211, Value.str ((tx [61, 48, 53])) 215, Value.str ((tx [61, 48, 54])) 219, Value.str ((tx [61, 48, 55])) 223, Value.str ((tx [61, 48, 56])) 227, Value.str ((tx [9])) 1730, Value.str ((tx [61, 48, 65])) 235, Value.str ((tx [61, 48, 66])) 239, Value.str ((tx [61, 48, 67])) 243, Value.str ((tx [61, 48, 68])) 247, Value.str ((tx [61, 48, 69])) 251, Value.str ((tx [61, 48, 70])) 255, Value.str ((tx [61, 49, 48])) 259, Value.str ((tx [61, 49, 49])) 263, Value.str ((tx [61, 49, 50])) 267, Value.str ((tx [61, 49, 51])) 271, Value.str ((tx [61, 49, 52])) 275, Value.str ((tx [61, 49, 53])) 279, Value.str ((tx [61, 49, 54])) 283, Value.str ((tx [61, 49, 55])) 287, Value.str ((tx [61, 49, 56])) 291, Value.str ((tx [61, 49, 57])) 295, Value.str ((tx [61, 49, 65])) 299, Value.str ((tx [61, 49, 66])) 303, Value.str ((tx [61, 49, 67])) 307, Value.str ((tx [61, 49, 68])) 311, Value.str ((tx [61, 49, 69])) 315, Value.str ((tx [61, 49, 70])) 319, Value.str ((tx [32])) 1448, Value.str ((tx [33])) 1451, Value.str ((tx [34])) 1454, Value.str ((tx [35])) 1457, Value.str ((tx [36])) 1460, Value.str ((tx [37])) 1463, Value.str ((tx [38])) 1466, Value.str ((tx [39])) 1469, Value.str ((tx [40])) 1472, Value.str ((tx [41])) 1475, Value.str ((tx [42])) 1478, Value.str ((tx [43])) 1481, Value.str ((tx [44])) 1484, Value.str ((tx [45])) 1487, Value.str ((tx [46])) 1490, Value.str ((tx [47])) 1493, Value.str ((tx [48])) 1496, Value.str ((tx [49])) 1499, Value.str ((tx [50])) 1502, Value.str ((tx [51])) 1505, Value.str ((tx [52])) 1508, Value.str ((tx [53])) 1511, Value.str ((tx [54])) 1514, Value.str ((tx [55])) 1517, Value.str ((tx [56])) 1520, Value.str ((tx [57])) 1523, Value.str ((tx [58])) 1526, Value.str ((tx [59])) 1529, Value.str ((tx [60])) 1532, Value.str ((tx [61, 51, 68])) 439, Value.str ((tx [62])) 1535, Value.str ((tx [63])) 1538, Value.str ((tx [64])) 1541, Value.str ((tx [65])) 1544, Value.str ((tx [66])) 1547, Value.str ((tx [67])) 1550, Value.str ((tx [68])) 1553, Value.str ((tx [69])) 1556, Value.str ((tx [70])) 1559, Value.str ((tx [71])) 1562, Value.str ((tx [72])) 1565, Value.str ((tx [73])) 1568, Value.str ((tx [74])) 1571, Value.str ((tx [75])) 1574, Value.str ((tx [76])) 1577, Value.str ((tx [77])) 1580, Value.str ((tx [78])) 1583, Value.str ((tx [79])) 1586, Value.str ((tx [80])) 1589, Value.str ((tx [81])) 1592, Value.str ((tx [82])) 1595, Value.str ((tx [83])) 1598, Value.str ((tx [84])) 1601, Value.str ((tx [85])) 1604, Value.str ((tx [86])) 1607, Value.str ((tx [87])) 1610, Value.str ((tx [88])) 1613, Value.str ((tx [89])) 1616, Value.str ((tx [90])) 1619, Value.str ((tx [91])) 1622, Value.str ((tx [92])) 1625, Value.str ((tx [93])) 1628, Value.str ((tx [94])) 1631, Value.str ((tx [95])) 1634, Value.str ((tx [96])) 1637, Value.str ((tx [97])) 1640, Value.str ((tx [98])) 1643, Value.str ((tx [99])) 1646, Value.str ((tx [100])) 1649, Value.str ((tx [101])) 1652, Value.str ((tx [102])) 1655, Value.str ((tx [103])) 1658, Value.str ((tx [104])) 1661, Value.str ((tx [105])) 1664, Value.str ((tx [106])) 1667, Value.str ((tx [107])) 1670, Value.str ((tx [108])) 1673, Value.str ((tx [109])) 1676, Value.str ((tx [110])) 1679, Value.str ((tx [111])) 1682, Value.str ((tx [112])) 1685, Value.str ((tx [113])) 1688, Value.str ((tx [114])) 1691, Value.str ((tx [115])) 1694, Value.str ((tx [116])) 1697, Value.str ((tx [117])) 1700, Value.str ((tx [118])) 1703, Value.str ((tx [119])) 1706, Value.str ((tx [120])) 1709, Value.str ((tx [121])) 1712, Value.str ((tx [122])) 1715, Value.str ((tx [123])) 1718, Value.str ((tx [124])) 1721, Value.str ((tx [125])) 1724, Value.str ((tx [126])) 1727, Value.str ((tx [61, 55, 70])) 703, Value.str ((tx [61, 56, 48])) 707, Value.str ((tx [61, 56, 49])) 711, Value.str ((tx [61, 56, 50])) 715, Value.str ((tx [61, 56, 51])) 719, Value.str ((tx [61, 56, 52])) 723, Value.str ((tx [61, 56, 53])) 727, Value.str ((tx [61, 56, 54])) 731, Value.str ((tx [61, 56, 55])) 735, Value.str ((tx [61, 56, 56])) 739, Value.str ((tx [61, 56, 57])) 743, Value.str ((tx [61, 56, 65])) 747, Value.str ((tx [61, 56, 66])) 751, Value.str ((tx [61, 56, 67])) 755, Value.str ((tx [61, 56, 68])) 759, Value.str ((tx [61, 56, 69])) 763, Value.str ((tx [61, 56, 70])) 767, Value.str ((tx [61, 57, 48])) 771, Value.str ((tx [61, 57, 49])) 775, Value.str ((tx [61, 57, 50])) 779, Value.str ((tx [61, 57, 51])) 783, Value.str ((tx [61, 57, 52])) 787, Value.str ((tx [61, 57, 53])) 791, Value.str ((tx [61, 57, 54])) 795, Value.str ((tx [61, 57, 55])) 799, Value.str ((tx [61, 57, 56])) 803, Value.str ((tx [61, 57, 57])) 807, Value.str ((tx [61, 57, 65])) 811, Value.str ((tx [61, 57, 66])) 815, Value.str ((tx [61, 57, 67])) 819, Value.str ((tx [61, 57, 68])) 823, Value.str ((tx [61, 57, 69])) 827, Value.str ((tx [61, 57, 70])) 831, Value.str ((tx [61, 65, 48])) 835, Value.str ((tx [61, 65, 49])) 839, Value.str ((tx [61, 65, 50])) 843, Value.str ((tx [61, 65, 51])) 847, Value.str ((tx [61, 65, 52])) 851, Value.str ((tx [61, 65, 53])) 855, Value.str ((tx [61, 65, 54])) 859, Value.str ((tx [61, 65, 55])) 863, Value.str ((tx [61, 65, 56])) 867, Value.str ((tx [61, 65, 57])) 871, Value.str ((tx [61, 65, 65])) 875, Value.str ((tx [61, 65, 66])) 879, Value.str ((tx [61, 65, 67])) 883, Value.str ((tx [61, 65, 68])) 887, Value.str ((tx [61, 65, 69])) 891, Value.str ((tx [61, 65, 70])) 895, Value.str ((tx [61, 66, 48])) 899, Value.str ((tx [61, 66, 49])) 903, Value.str ((tx [61, 66, 50])) 907, Value.str ((tx [61, 66, 51])) 911, Value.str ((tx [61, 66, 52])) 915, Value.str ((tx [61, 66, 53])) 919, Value.str ((tx [61, 66, 54])) 923, Value.str ((tx [61, 66, 55])) 927, Value.str ((tx [61, 66, 56])) 931, Value.str ((tx [61, 66, 57])) 935, Value.str ((tx [61, 66, 65])) 939, Value.str ((tx [61, 66, 66])) 943, Value.str ((tx [61, 66, 67])) 947, Value.str ((tx [61, 66, 68])) 951, Value.str ((tx [61, 66, 69])) 955, Value.str ((tx [61, 66, 70])) 959, Value.str ((tx [61, 67, 48])) 963, Value.str ((tx [61, 67, 49])) 967, Value.str ((tx [61, 67, 50])) 971, Value.str ((tx [61, 67, 51])) 975, Value.str ((tx [61, 67, 52])) 979, Value.str ((tx [61, 67, 53])) 983, Value.str ((tx [61, 67, 54])) 987, Value.str ((tx [61, 67, 55])) 991, Value.str ((tx [61, 67, 56])) 995, Value.str ((tx [61, 67, 57])) 999, Value.str ((tx [61, 67, 65])) 1003, Value.str ((tx [61, 67, 66])) 1007, Value.str ((tx [61, 67, 67])) 1011, Value.str ((tx [61, 67, 68])) 1015, Value.str ((tx [61, 67, 69])) 1019, Value.str ((tx [61, 67, 70])) 1023, Value.str ((tx [61, 68, 48])) 1027, Value.str ((tx [61, 68, 49])) 1031, Value.str ((tx [61, 68, 50])) 1035, Value.str ((tx [61, 68, 51])) 1039, Value.str ((tx [61, 68, 52])) 1043, Value.str ((tx [61, 68, 53])) 1047, Value.str ((tx [61, 68, 54])) 1051, Value.str ((tx [61, 68, 55])) 1055, Value.str ((tx [61, 68, 56])) 1059, Value.str ((tx [61, 68, 57])) 1063, Value.str ((tx [61, 68, 65])) 1067, Value.str ((tx [61, 68, 66])) 1071, Value.str ((tx [61, 68, 67])) 1075, Value.str ((tx [61, 68, 68])) 1079, Value.str ((tx [61, 68, 69])) 1083, Value.str ((tx [61, 68, 70])) 1087, Value.str ((tx [61, 69, 48])) 1091, Value.str ((tx [61, 69, 49])) 1095, Value.str ((tx [61, 69, 50])) 1099, Value.str ((tx [61, 69, 51])) 1103, Value.str ((tx [61, 69, 52])) 1107, Value.str ((tx [61, 69, 53])) 1111, Value.str ((tx [61, 69, 54])) 1115, Value.str ((tx [61, 69, 55])) 1119, Value.str ((tx [61, 69, 56])) 1123, Value.str ((tx [61, 69, 57])) 1127, Value.str ((tx [61, 69, 65])) 1131, Value.str ((tx [61, 69, 66])) 1135, Value.str ((tx [61, 69, 67])) 1139, Value.str ((tx [61, 69, 68])) 1143, Value.str ((tx [61, 69, 69])) 1147, Value.str ((tx [61, 69, 70])) 1151, Value.str ((tx [61, 70, 48])) 1155, Value.str ((tx [61, 70, 49])) 1159, Value.str ((tx [61, 70, 50])) 1163, Value.str ((tx [61, 70, 51])) 1167, Value.str ((tx [61, 70, 52])) 1171, Value.str ((tx [61, 70, 53])) 1175, Value.str ((tx [61, 70, 54])) 1179, Value.str ((tx [61, 70, 55])) 1183, Value.str ((tx [61, 70, 56])) 1187, Value.str ((tx [61, 70, 57])) 1191, Value.str ((tx [61, 70, 65])) 1195, Value.str ((tx [61, 70, 66])) 1199, Value.str ((tx [61, 70, 67])) 1203, Value.str ((tx [61, 70, 68])) 1207, Value.str ((tx [61, 70, 69])) 1211, Value.str ((tx [61, 70, 70])) 1215] }
noncomputable def stS3_28 (P : Params) : Obj := { cls := Value.type "bytes_iterator", data := Data.fields #[Value.none, Value.int 95 0] }
noncomputable def stS3_29 (P : Params) : Obj := { cls := Value.type "tuple", data := Data.seq #[] }
noncomputable def stS3_30 (P : Params) : Obj := { cls := Value.type "StopIteration", data := Data.fields #[Value.ref 29, Value.none, Value.none, Value.none, Value.bool false, Value.none] }
noncomputable def S3 (w : World) (os : OsState) : SharedT := ⟨bt ((fun P => [boot_o_0 P, boot_o_1 P, boot_o_2 P, stS3_3 P, boot_o_4 P, boot_o_5 P, boot_o_6 P, boot_o_7 P, boot_o_8 P, boot_o_9 P, boot_o_10 P, stSA_11 P, stSA_12 P, stSA_13 P, stSA_14 P, stS1_15 P, stS1_16 P, stS1_17 P, stS1_18 P, stS1_19 P, stS1_20 P, stSb_21 P, stS3_22 P, stSb_23 P, stS3_24 P, stS2_25 P, stS2_26 P, stS2_27 P, stS3_28 P, stS3_29 P, stS3_30 P]) w.params) 9 1 0, 31, (boot_heap w.params).life, Array.mk [], boot_drawn, 1731, os⟩
noncomputable def bE : List Stmt := behindTheImports PW
noncomputable def envE : Env := { scope := PW.main.scope, locals := mainNs, globals := mainNs, cells := [], code := Value.ref 13, frame := some 14 }
abbrev annE : Option Value := some (Value.ref 6)
abbrev pos0 : Pos := ⟨0, 0, 0, 0⟩
abbrev pos1 : Pos := ⟨2, 0, 2, 11⟩
abbrev pos2 : Pos := ⟨10, 0, 10, 8⟩
abbrev pos3 : Pos := ⟨11, 9, 11, 74⟩
abbrev pos4 : Pos := ⟨14, 9, 14, 110⟩
theorem run_pre : ∀ (w : World) (os : OsState), goQ PW w 11 annE 12 (s0T w 11 os) (topStub PW) = some (SA w os, ⟨PySem.W.Fast.tw11892475500146522536 PySem.W.Fast.tw14364793385576792824 (.body bE envE), .body bE envE, pos0, [topFrame pos0]⟩) := fun w os => by kernel_rfl
theorem run_blk : ∀ (w : World) (s : SharedT), segQ PW w 11 annE 1 s (blockOf bE envE (.body bE envE) pos0 [topFrame pos0]) = some (.next, s, .body bE envE, pos0) := fun w s => by kernel_rfl
theorem body_cut : bE = bE.take 2 ++ ((bE.drop 2).take 8 ++ ((bE.drop 10).take 1 ++ ((bE.drop 11).take 2 ++ ((bE.drop 13).take 5 ++ bE.drop 18)))) := by
  rw [← List.drop_drop (i := 5) (j := 13), List.take_append_drop, ← List.drop_drop (i := 2) (j := 11), List.take_append_drop, ← List.drop_drop (i := 1) (j := 10), List.take_append_drop, ← List.drop_drop (i := 8) (j := 2), List.take_append_drop, List.take_append_drop]
end Mine
end H6
section H8
open PySem PySem.W PyProof.Rows PySem.Calls
set_option Elab.async false
set_option maxRecDepth 100000
set_option maxHeartbeats 8000000
namespace Mine
noncomputable def goSegQ (p : Program) (w : World) (n₀ : Nat) (ann : Option Value) : Nat → SharedT → Thread → Option (SharedT × Thread)
  | 0, s, t => some (s, t)
  | n + 1, s, t => match endAt 1 t with
    | some _ => none
    | none => match PySem.W.Fast.tw6613529449190102663 n₀ ann t with
      | false => none
      | true => match PySem.W.Fast.tw10156331382660048174 (PySem.W.Fast.tw11892475500146522536 PySem.W.Fast.tw14364793385576792824) p w s t with
        | some (s', t') => goSegQ p w n₀ ann n s' t'
        | none => none
theorem segQ_go0 {p : Program} {w : World} {n₀ : Nat} {ann : Option Value} {N : Nat} {r : Flow × SharedT × Code × Pos} : ∀ {n : Nat} {s s' : SharedT} {t t' : Thread}, goSegQ p w n₀ ann n s t = some (s', t') → segQ p w n₀ ann N s' t' = some r → ∃ M, segQ p w n₀ ann M s t = some r ∧ M = n + N
  | 0, _, _, _, _, h, k => by cases h; exact ⟨N, k, (Nat.zero_add N).symm⟩
  | n + 1, s, s', t, t', h, k => by
    unfold goSegQ at h
    cases he : endAt 1 t with
    | some g => rw [he] at h; cases h
    | none =>
      rw [he] at h
      cases hk : PySem.W.Fast.tw6613529449190102663 n₀ ann t with
      | false => rw [hk] at h; cases h
      | true =>
        rw [hk] at h
        cases hs : PySem.W.Fast.tw10156331382660048174 (PySem.W.Fast.tw11892475500146522536 PySem.W.Fast.tw14364793385576792824) p w s t with
        | none => rw [hs] at h; cases h
        | some r₂ =>
          obtain ⟨s₂, t₂⟩ := r₂
          rw [hs] at h
          obtain ⟨M, e, rfl⟩ := segQ_go0 h k
          refine ⟨n + N + 1, ?_, by omega⟩
          unfold segQ
          rw [he, hk, hs]
          exact e
theorem segQ_go {p : Program} {w : World} {n₀ : Nat} {ann : Option Value} {N n : Nat} {r : Flow × SharedT × Code × Pos} {s s' : SharedT} {t t' : Thread} (h : goSegQ p w n₀ ann n s t = some (s', t')) (k : segQ p w n₀ ann N s' t' = some r) : segQ p w n₀ ann (n + N) s t = some r := by
  obtain ⟨M, e, rfl⟩ := segQ_go0 h k
  exact e
theorem segQ_more {p : Program} {w : World} {n₀ : Nat} {ann : Option Value} {r : Flow × SharedT × Code × Pos} (k : Nat) : ∀ {n : Nat} {s : SharedT} {t : Thread}, segQ p w n₀ ann n s t = some r → segQ p w n₀ ann (n + k) s t = some r
  | 0, _, _, h => by cases h
  | n + 1, s, t, h => by
    rw [show n + 1 + k = n + k + 1 by omega]
    unfold segQ at h ⊢
    cases he : endAt 1 t with
    | some g => rw [he] at h; exact h
    | none =>
      rw [he] at h
      cases hk : PySem.W.Fast.tw6613529449190102663 n₀ ann t with
      | false => rw [hk] at h; cases h
      | true =>
        rw [hk] at h
        cases hs : PySem.W.Fast.tw10156331382660048174 (PySem.W.Fast.tw11892475500146522536 PySem.W.Fast.tw14364793385576792824) p w s t with
        | none => rw [hs] at h; cases h
        | some r₂ => obtain ⟨s₂, t₂⟩ := r₂; rw [hs] at h; exact segQ_more k h
noncomputable def hx (d : Nat) : Nat := bif Nat.blt d 10 then 48 + d else 55 + d
noncomputable def itm (k : Nat) : Value := Value.str ⟨⟨[61, hx (k / 16), hx (k % 16)]⟩⟩ (195 + 4 * k)
noncomputable def itms (i n : Nat) : List Value := (List.range' i n).map itm
noncomputable def stC_3 (P : Params) : Obj := { cls := Value.type "dict", data := Data.dict #[{ hash := PyData.keyHash P ((tx [95, 95, 110, 97, 109, 101, 95, 95])), key := Value.str ((tx [95, 95, 110, 97, 109, 101, 95, 95])) 165, val := Value.str ((tx [95, 95, 109, 97, 105, 110, 95, 95])) 164 }, { hash := PyData.keyHash P ((tx [95, 95, 100, 111, 99, 95, 95])), key := Value.str ((tx [95, 95, 100, 111, 99, 95, 95])) 166, val := Value.none }, { hash := PyData.keyHash P ((tx [95, 95, 112, 97, 99, 107, 97, 103, 101, 95, 95])), key := Value.str ((tx [95, 95, 112, 97, 99, 107, 97, 103, 101, 95, 95])) 167, val := Value.none }, { hash := PyData.keyHash P ((tx [95, 95, 108, 111, 97, 100, 101, 114, 95, 95])), key := Value.str ((tx [95, 95, 108, 111, 97, 100, 101, 114, 95, 95])) 168, val := Value.builtin "__main__.__loader__#opaque" }, { hash := PyData.keyHash P ((tx [95, 95, 115, 112, 101, 99, 95, 95])), key := Value.str ((tx [95, 95, 115, 112, 101, 99, 95, 95])) 169, val := Value.none }, { hash := PyData.keyHash P ((tx [95, 95, 97, 110, 110, 111, 116, 97, 116, 105, 111, 110, 115, 95, 95])), key := Value.str ((tx [95, 95, 97, 110, 110, 111, 116, 97, 116, 105, 111, 110, 115, 95, 95])) 170, val := Value.ref 6 }, { hash := PyData.keyHash P ((tx [95, 95, 98, 117, 105, 108, 116, 105, 110, 115, 95, 95])), key := Value.str ((tx [95, 95, 98, 117, 105, 108, 116, 105, 110, 115, 95, 95])) 171, val := Value.ref 4 }, { hash := PyData.keyHash P ((tx [95, 95, 102, 105, 108, 101, 95, 95])), key := Value.str ((tx [95, 95, 102, 105, 108, 101, 95, 95])) 173, val := Value.str ((tx [47, 99, 108, 97, 105, 109, 47, 99, 117, 116, 46, 112, 121])) 172 }, { hash := PyData.keyHash P ((tx [95, 95, 99, 97, 99, 104, 101, 100, 95, 95])), key := Value.str ((tx [95, 95, 99, 97, 99, 104, 101, 100, 95, 95])) 174, val := Value.none }, { hash := PyData.keyHash P ((tx [78, 76])), key := Value.str ((tx [78, 76])) 188, val := Value.str ((tx [10])) 187 }] 10 }
noncomputable def C (w : World) (os : OsState) (i : Nat) : SharedT := ⟨bt ((fun P => [boot_o_0 P, boot_o_1 P, boot_o_2 P, stC_3 P, boot_o_4 P, boot_o_5 P, boot_o_6 P, boot_o_7 P, boot_o_8 P, boot_o_9 P, boot_o_10 P, stSA_11 P, stSA_12 P, stSA_13 P, stSA_14 P, stS1_15 P, { cls := Value.type "range_iterator", data := Data.fields #[Value.int (Int.ofNat i) 0, Value.int (Int.ofNat (256 - i)) 0, Value.int 1 0] }, { cls := Value.type "list", data := Data.seq ⟨itms 0 i⟩ i }, { cls := Value.type "dict", data := Data.dict #[{ hash := PyData.keyHash P (tx [99]), key := Value.str (tx [99]) 193, val := Value.int (Int.ofNat (i - 1)) (188 + 4 * i) }] 1 }]) w.params) 9 1 0, 19, (boot_heap w.params).life, Array.mk [], boot_drawn, 192 + 4 * i, os⟩
abbrev wf (w : World) (a b : Bool) : World := (w.withFollow "comprehension-iter-twice" a).withFollow "special-get-raises" b
theorem by_row {P : World → Prop} (h : ∀ (b : Bool) (w : World), P (w.withFollow "special-get-raises" b)) (w : World) : P w := byRow2 "special-get-raises" (P := P) (h false) (h true) w
theorem by_rows {P : World → Prop} (h : ∀ a b w, P (wf w a b)) (w : World) : P w :=
  by_row (fun b w => byRow2 "comprehension-iter-twice" (P := fun w => P (w.withFollow "special-get-raises" b)) (h false b) (h true b) w) w
noncomputable abbrev P1 : Thread := piecesOf (bE.take 2) envE (.body bE envE) pos0 [topFrame pos0]
noncomputable def T1 (w : World) (b : Bool) (os : OsState) : Thread := match goSegQ PW (wf w true b) 11 annE 87 (SA (wf w true b) os) P1 with
  | some (_, t) => t
  | none => P1
theorem first_tf : ∀ w os, goSegQ PW (wf w true false) 11 annE 87 (SA (wf w true false) os) P1 = some (C (wf w true false) os 1, T1 w false os) := fun w os => by kernel_rfl
theorem first_ff : ∀ w os, goSegQ PW (wf w false false) 11 annE 97 (SA (wf w false false) os) P1 = some (C (wf w false false) os 1, T1 w false os) := fun w os => by kernel_rfl
theorem loop_f1 : ∀ a w os, goSegQ PW (wf w a false) 11 annE 2368 (C (wf w a false) os 1) (T1 w false os) = some (C (wf w a false) os 65, T1 w false os) := fun a w os => by kernel_rfl
theorem loop_f65 : ∀ a w os, goSegQ PW (wf w a false) 11 annE 2368 (C (wf w a false) os 65) (T1 w false os) = some (C (wf w a false) os 129, T1 w false os) := fun a w os => by kernel_rfl
theorem loop_f129 : ∀ a w os, goSegQ PW (wf w a false) 11 annE 2368 (C (wf w a false) os 129) (T1 w false os) = some (C (wf w a false) os 193, T1 w false os) := fun a w os => by kernel_rfl
theorem loop_f193 : ∀ a w os, goSegQ PW (wf w a false) 11 annE 2331 (C (wf w a false) os 193) (T1 w false os) = some (C (wf w a false) os 256, T1 w false os) := fun a w os => by kernel_rfl
theorem last_f : ∀ a w os, segQ PW (wf w a false) 11 annE 100 (C (wf w a false) os 256) (T1 w false os) = some (.next, S1 (wf w a false) os, .body bE envE, pos1) := fun a w os => by kernel_rfl
theorem tail_f (a : Bool) (w : World) (os : OsState) : segQ PW (wf w a false) 11 annE (2368 + (2368 + (2368 + (2331 + 100)))) (C (wf w a false) os 1) (T1 w false os) = some (.next, S1 (wf w a false) os, .body bE envE, pos1) :=
  segQ_go (loop_f1 a w os) (segQ_go (loop_f65 a w os) (segQ_go (loop_f129 a w os) (segQ_go (loop_f193 a w os) (last_f a w os))))
theorem first_tt : ∀ w os, goSegQ PW (wf w true true) 11 annE 87 (SA (wf w true true) os) P1 = some (C (wf w true true) os 1, T1 w true os) := fun w os => by kernel_rfl
theorem first_ft : ∀ w os, goSegQ PW (wf w false true) 11 annE 97 (SA (wf w false true) os) P1 = some (C (wf w false true) os 1, T1 w true os) := fun w os => by kernel_rfl
theorem loop_t1 : ∀ a w os, goSegQ PW (wf w a true) 11 annE 2368 (C (wf w a true) os 1) (T1 w true os) = some (C (wf w a true) os 65, T1 w true os) := fun a w os => by kernel_rfl
theorem loop_t65 : ∀ a w os, goSegQ PW (wf w a true) 11 annE 2368 (C (wf w a true) os 65) (T1 w true os) = some (C (wf w a true) os 129, T1 w true os) := fun a w os => by kernel_rfl
theorem loop_t129 : ∀ a w os, goSegQ PW (wf w a true) 11 annE 2368 (C (wf w a true) os 129) (T1 w true os) = some (C (wf w a true) os 193, T1 w true os) := fun a w os => by kernel_rfl
theorem loop_t193 : ∀ a w os, goSegQ PW (wf w a true) 11 annE 2331 (C (wf w a true) os 193) (T1 w true os) = some (C (wf w a true) os 256, T1 w true os) := fun a w os => by kernel_rfl
theorem last_t : ∀ a w os, segQ PW (wf w a true) 11 annE 100 (C (wf w a true) os 256) (T1 w true os) = some (.next, S1 (wf w a true) os, .body bE envE, pos1) := fun a w os => by kernel_rfl
theorem tail_t (a : Bool) (w : World) (os : OsState) : segQ PW (wf w a true) 11 annE (2368 + (2368 + (2368 + (2331 + 100)))) (C (wf w a true) os 1) (T1 w true os) = some (.next, S1 (wf w a true) os, .body bE envE, pos1) :=
  segQ_go (loop_t1 a w os) (segQ_go (loop_t65 a w os) (segQ_go (loop_t129 a w os) (segQ_go (loop_t193 a w os) (last_t a w os))))
theorem run1 : ∀ (w : World) (os : OsState), segQ PW w 11 annE 9632 (SA w os) P1 = some (.next, S1 w os, .body bE envE, pos1) :=
  by_rows (P := fun w => ∀ os, segQ PW w 11 annE 9632 (SA w os) P1 = some (.next, S1 w os, .body bE envE, pos1)) fun a b w os => match a, b with
    | false, false => segQ_go (first_ff w os) (tail_f false w os)
    | true, false => segQ_more 10 (segQ_go (first_tf w os) (tail_f true w os))
    | false, true => segQ_go (first_ft w os) (tail_t false w os)
    | true, true => segQ_more 10 (segQ_go (first_tt w os) (tail_t true w os))
end Mine
end H8
section H9
open PySem PySem.W PyProof.Rows PySem.Calls
set_option Elab.async false
set_option maxRecDepth 100000
set_option maxHeartbeats 8000000
namespace Mine
abbrev pos5 : Pos := ⟨23, 4, 23, 5⟩
abbrev wg (w : World) (b : Bool) : World := w.withFollow "special-get-raises" b
theorem run2 : ∀ (w : World) (os : OsState), segQ PW w 11 annE 200 (S1 w os) (piecesOf ((bE.drop 2).take 8) envE (.body bE envE) pos1 [topFrame pos0]) = some (.next, Sb w os, .body bE envE, pos2) := fun w os => by kernel_rfl
abbrev seg3 (w : World) : Prop := ∀ os, segQ PW w 11 annE 3200 (Sb w os) (piecesOf ((bE.drop 10).take 1) envE (.body bE envE) pos2 [topFrame pos0]) = some (.next, S2 w os, .body bE envE, pos3)
abbrev seg4 (w : World) : Prop := ∀ os, segQ PW w 11 annE 4400 (S2 w os) (piecesOf ((bE.drop 11).take 2) envE (.body bE envE) pos3 [topFrame pos0]) = some (.next, S3 w os, .body bE envE, pos4)
theorem seg3_f : ∀ w, seg3 (wg w false) := fun w os => by kernel_rfl
theorem seg3_t : ∀ w, seg3 (wg w true) := fun w os => by kernel_rfl
theorem seg4_f : ∀ w, seg4 (wg w false) := fun w os => by kernel_rfl
theorem seg4_t : ∀ w, seg4 (wg w true) := fun w os => by kernel_rfl
theorem run3 : ∀ w, seg3 w := by_row (P := seg3) fun b => match b with | false => seg3_f | true => seg3_t
theorem run4 : ∀ w, seg4 w := by_row (P := seg4) fun b => match b with | false => seg4_f | true => seg4_t
/-- the state behind the eighteenth part, by computation -/
noncomputable abbrev P5 : Thread := piecesOf ((bE.drop 13).take 5) envE (.body bE envE) pos4 [topFrame pos0]
noncomputable def S5 (w : World) (os : OsState) : SharedT := match segQ PW (wg w true) 11 annE 300 (S3 (wg w true) os) P5 with
  | some (_, s, _) => s
  | none => S3 w os
abbrev seg5 (w : World) (s : World) : Prop := ∀ os, segQ PW w 11 annE 300 (S3 w os) P5 = some (.next, S5 s os, .body bE envE, pos5)
theorem seg5_f : ∀ w, seg5 (wg w false) w := fun w os => by kernel_rfl
theorem seg5_t : ∀ w, seg5 (wg w true) w := fun w os => by kernel_rfl
theorem h_size : ∀ w : World, ((boot_heap w.params).isNs mainGlobals && (Array.mk ([] : List GenState)).size == 0, (boot_heap w.params).objs.size, (boot_heap w.params).nsMap mainGlobals "__annotations__") = (true, 11, annE) := fun w => by kernel_rfl
/-- the rest of the text, from the state that the world s leaves, and what is asked of its end, in two looks -/
noncomputable abbrev endQ (w s : World) (os : OsState) : Option SharedT := runQ PW w 11 annE 800 (S5 s os) (restOf (bE.drop 18) envE (.body bE envE) pos5 [topFrame pos0])
noncomputable abbrev lookB (q : Program) (loose : List Str) (Xt : Shared → Bool) (w s : World) : Prop := ∀ os, (endQ w s os).map (fun sT => PySem.W.Fast.tw4187177175401517315 q loose (importedModules PW.main.body) Xt true sT.abs) = some (openGood q loose)
noncomputable abbrev lookC {α : Type} (Yf : Shared → α) (Ya : World → α) (w s : World) : Prop := ∀ os, (endQ w s os).map (fun sT => (staticsOk (importedModules PW.main.body) (boot_heap w.params) sT.abs.heap && namesBound PW sT.abs.heap && gensDone sT.abs && laidKept (boot_heap w.params) sT.abs.heap, Yf sT.abs)) = some (true, Ya w)
theorem map_three {σ α β γ : Type} {x : Option σ} {f : σ → α} {g : σ → β} {h : σ → γ} {a : α} {b : β} {c : γ} (hg : x.map g = some b) (hf : x.map (fun s => (f s, h s)) = some (a, c)) : x.map (fun s => (f s, g s, h s)) = some (a, b, c) := by
  obtain ⟨s, rfl, e⟩ := Option.map_eq_some_iff.mp hf
  obtain ⟨rfl, rfl⟩ := Prod.mk.inj e
  obtain rfl := Option.some.inj hg
  rfl
theorem left_rows {p q : Program} {loose : List Str} {Xt : Shared → Bool} {α : Type} {Yf : Shared → α} {Ya : World → α} (hp : p = PySem.Challenge.pw_rw0021_01) (hB : ∀ b w, lookB q loose Xt (wg w b) w) (hC : ∀ b w, lookC Yf Ya (wg w b) w) : LeftO p q loose Xt Yf Ya 36170 := by
  have hp : p = PW := hp.trans PySem.W.Fast.te16564327084096338402
  subst hp
  have key : ∀ w, ∃ s, seg5 w s ∧ lookB q loose Xt w s ∧ lookC Yf Ya w s := by_row (P := fun w => ∃ s, seg5 w s ∧ lookB q loose Xt w s ∧ lookC Yf Ya w s) fun b w => ⟨w, match b with | false => seg5_f w | true => seg5_t w, hB b w, hC b w⟩
  exact left_of_ends (M := 12 + (1 + (9632 + (200 + (3200 + (4400 + (300 + 800))))))) (PW_eq ▸ h_open) h_size h_tree (fun w os => let ⟨_, h5, h6, h7⟩ := key w; chain body_cut (run_pre w os) (run_blk w (SA w os)) (run1 w os) (run2 w os) (run3 w os) (run4 w os) (h5 os) (map_three (h6 os) (h7 os))) (by decide +kernel)
end Mine
end H9
section HD
open PySem PySem.W PyProof.Rows
set_option Elab.async false
set_option maxRecDepth 100000
set_option maxHeartbeats 8000000
namespace Mine
theorem and_use {A B C : Prop} (f : A ∧ B → C) (h : A ∧ B) : C := f h
section
local macro_rules
  | `(tactic| refine $t:term) => do
    match t with
    | `($f:ident $_args*) =>
      if f.getId == `PySem.W.holds_open then
        let h := Lean.mkIdent `hAnd
        let t' ← t.raw.replaceM fun s => do
          match s with
          | `(?$i:ident) => if i.getId == `hl then return some (← `($h |>.1)) else if i.getId == `hc then return some (← `($h |>.2)) else return none
          | _ => return none
        let t' : Lean.TSyntax `term := ⟨t'⟩
        `(tactic| refine and_use (fun $h => $t') ?$(Lean.mkIdent `hc))
      else Lean.Macro.throwUnsupported
    | _ => Lean.Macro.throwUnsupported
open_top hd for PySem.Challenge.rw_rw0021_01
end
/-- the head leaves the switch of the lines of a row's top on: off again, the parts are walked without them -/
theorem walk_off : True := by
  w_top off
  trivial
end Mine
end HD
section W1
open PySem PySem.W PyProof.Rows PySem.Calls
set_option Elab.async false
set_option maxRecDepth 100000
set_option maxHeartbeats 8000000
namespace Mine
noncomputable abbrev loL : List Str := [Str.ofString "_QUOPRI_MAP", Str.ofString "_QUOPRI_HEADER_MAP", Str.ofString "_QUOPRI_BODY_MAP", Str.ofString "ascii_letters", Str.ofString "hexdigits", Str.ofString "_QUOPRI_BODY_ENCODE_MAP", Str.ofString "decode"]
noncomputable abbrev xtF : Shared → Bool := fun s => xlAt hd.view_39 [(Str.ofString "ascii_letters", WData.str { cps := #[97, 98, 99, 100, 101, 102, 103, 104, 105, 106, 107, 108, 109, 110, 111, 112, 113, 114, 115, 116, 117, 118, 119, 120, 121, 122, 65, 66, 67, 68, 69, 70, 71, 72, 73, 74, 75, 76, 77, 78, 79, 80, 81, 82, 83, 84, 85, 86, 87, 88, 89, 90] }), (Str.ofString "hexdigits", WData.str { cps := #[48, 49, 50, 51, 52, 53, 54, 55, 56, 57, 97, 98, 99, 100, 101, 102, 65, 66, 67, 68, 69, 70] })] s && recOk PySem.Challenge.rw_rw0021_01.row.records s
noncomputable abbrev asL : List Addr := [2, 3, 6, 17, 22, 24, 31, 33, 34, 36, 37, 38, 40, 41, 43, 44, 46, 50, 51, 53, 54, 56, 57, 58, 65, 66, 67, 68, 71, 78, 79, 80, 83, 85, 86, 88, 89, 90, 92, 93, 95, 96, 97, 99, 100, 102, 103, 104, 106, 107, 109, 110, 111, 113, 114, 116, 117, 118, 120, 121, 123, 124, 125, 127, 128, 130, 131, 132, 135, 136]
noncomputable abbrev yfF : Shared → List (Option Obj) := fun s => asL.map s.heap.get?
noncomputable abbrev yaF : World → List (Option Obj) := fun w => (hd.heap_39 w.params).map fun p => some p.2
theorem end_B : ∀ (b : Bool) (w : World), lookB hd.view_39 loL xtF (wg w b) w := fun b w os => by kernel_rfl
theorem end_C : ∀ (b : Bool) (w : World), lookC yfF yaF (wg w b) w := fun b w os => by kernel_rfl
theorem hl : LeftO PySem.Challenge.rw_rw0021_01.row.prog hd.view_39 loL xtF yfF yaF 36170 := left_rows (by kernel_rfl) end_B end_C
end Mine
end W1
section B0
open PySem PySem.W PyProof.Rows
set_option Elab.async false
set_option maxRecDepth 100000
set_option maxHeartbeats 8000000
namespace Mine
noncomputable abbrev PR : Program := PySem.Challenge.rw_rw0021_01.row.prog
noncomputable abbrev LO : List Str := looseW hd.view_39
    [Str.ofString "_QUOPRI_MAP", Str.ofString "_QUOPRI_HEADER_MAP", Str.ofString "_QUOPRI_BODY_MAP",
      Str.ofString "ascii_letters", Str.ofString "hexdigits", Str.ofString "_QUOPRI_BODY_ENCODE_MAP",
      Str.ofString "decode"]
/-- a call of the def at f, from any frame, hands back R: lv defs deep -/
def Cl (lv : Nat) (w : World) (mean : ExcName → Option Value) (mg mb : Str → Option Value) (f : Addr) (news : List (Addr × Obj)) (vs : List Value) (R : Tok → Value) : Prop :=
  ∀ (dp un : Nat) (gd : Option (List Code)) (cn : Str) (cs : Scope) (a : Addr) (ccd : Value) (cl : List (Str × Addr)) (outer : List Env) (A₀ : Around) (base h₀ : Heap) (L : Addr) (m : Str → Option Value) (s : Shared) (Q E : Value → Shared → Prop),
    Below A₀ base outer h₀ → Fr h₀ L s.heap m → (hd.heap_39 w.params).In h₀ → News h₀ L s.heap news → Top hd.view_39 LO mean mg mb h₀ → cs.kind = .function → dp + lv < recursionLimit → un + 8 * lv < cLine →
    (∀ (t : Tok) (h' : Heap) (tk' : Nat), Fr h₀ L h' m → News h₀ L h' news → Q (R t) { s with heap := h', toks := tk' }) →
    wpAny (model PySem.Challenge.rw_rw0021_01.row.prog w) (ktrTop dp un gd cn cs L a ccd cl outer) (call (.ref f) vs) Q E s
theorem cl_use {lv : Nat} {w : World} {mean : ExcName → Option Value} {mg mb : Str → Option Value} {f : Addr} {news : List (Addr × Obj)} {vs : List Value} {R : Tok → Value} (C : Cl lv w mean mg mb f news vs R)
    {dp un : Nat} {gd : Option (List Code)} {cn : Str} {cs : Scope} {a : Addr} {ccd : Value} {cl : List (Str × Addr)} {outer : List Env} {A₀ : Around} {base h₀ : Heap} {L : Addr} {m : Str → Option Value} {s : Shared} {Q E : Value → Shared → Prop}
    (B : Below A₀ base outer h₀) (F : Fr h₀ L s.heap m) (X : (hd.heap_39 w.params).In h₀) (N : News h₀ L s.heap news) (T : Top hd.view_39 LO mean mg mb h₀) (hk : cs.kind = .function) (hd : dp + lv < recursionLimit) (hu : un + 8 * lv < cLine)
    (hret : ∀ (t : Tok) (h' : Heap) (tk' : Nat), Fr h₀ L h' m → News h₀ L h' news → Q (R t) { s with heap := h', toks := tk' }) :
    wpAny (model PySem.Challenge.rw_rw0021_01.row.prog w) (ktrTop dp un gd cn cs L a ccd cl outer) (call (.ref f) vs) Q E s :=
  C dp un gd cn cs a ccd cl outer A₀ base h₀ L m s Q E B F X N T hk hd hu hret
/-- the same from the law's own frame alone: a def that catches what its callee raises -/
def Cl0 (lv : Nat) (w : World) (mean : ExcName → Option Value) (mg mb : Str → Option Value) (f : Addr) (news : List (Addr × Obj)) (vs : List Value) (R : Tok → Value) : Prop :=
  ∀ (dp un : Nat) (gd : Option (List Code)) (cn : Str) (cs : Scope) (a : Addr) (ccd : Value) (A₀ : Around) (h₀ : Heap) (L : Addr) (m : Str → Option Value) (s : Shared) (Q E : Value → Shared → Prop),
    Below A₀ h₀ [] h₀ → Fr h₀ L s.heap m → (hd.heap_39 w.params).In h₀ → News h₀ L s.heap news → Top hd.view_39 LO mean mg mb h₀ → cs.kind = .function → dp + lv < recursionLimit → un + 8 * lv < cLine →
    (∀ (t : Tok) (h' : Heap) (tk' : Nat), Fr h₀ L h' m → News h₀ L h' news → Q (R t) { s with heap := h', toks := tk' }) →
    wpAny (model PySem.Challenge.rw_rw0021_01.row.prog w) { handled := none, depth := dp, frames := some [envOf cn cs L a ccd], guards := gd, units := un } (call (.ref f) vs) Q E s
end Mine
end B0
section L0
open PySem PySem.W PyProof.Rows PySem.Calls PyProof.V PySem.Spec
set_option Elab.async false
set_option maxRecDepth 100000
set_option maxHeartbeats 8000000
namespace Mine
def Halt (P : Prop) : Prop := P
theorem halt {P : Prop} (h : Halt P) : P := h
theorem halted {P : Prop} (h : P) : Halt P := h
section
variable {prog : Program} {w : World} {A : Around} {E : Value → Shared → Prop} {s : Shared} {env : Env} {h₀ : Heap} {x : Str} {body : List Stmt} {Q : Flow → Shared → Prop}
def CutS (x : Str) (h : Heap) (g : Array GenState) (d : Drawn) (o : OsState) (a : Value) (s' : Shared) : Prop := ∃ tk k, a = Value.str x tk ∧ s' = ⟨h, g, d, k, o⟩
theorem cutS_in {x y : Str} {h : Heap} {g : Array GenState} {d : Drawn} {o : OsState} {tk k : Nat} (e : y = x) : CutS x h g d o (.str y tk) ⟨h, g, d, k, o⟩ := ⟨tk, k, congrArg (fun z => Value.str z tk) e, rfl⟩
theorem cut_str {M : Model} {t : Sem Value} {Q : Value → Shared → Prop} {h : Heap} {g : Array GenState} {d : Drawn} {o : OsState} {k0 : Nat} (x : Str) (h1 : wpAny M A t (CutS x h g d o) E ⟨h, g, d, k0, o⟩) (h2 : ∀ tk k, Q (.str x tk) ⟨h, g, d, k, o⟩) :
    wpAny M A t Q E ⟨h, g, d, k0, o⟩ := wpAny_mono h1 (fun a s' ⟨tk, k, e1, e2⟩ => by subst e1 e2; exact h2 tk k) fun _ _ h => h
theorem gen_toks3 {α : Type} {M : Model} {t : Sem α} {Q : α → Shared → Prop} {h : Heap} {g : Array GenState} {d : Drawn} {o : OsState} {k : Nat} (H : ∀ k', wpAny M A t Q E ⟨h, g, d, k', o⟩) : wpAny M A t Q E ⟨h, g, d, k + 1 + 1 + 1, o⟩ := H _
def LpPost (h₀ : Heap) (L : Addr) (keep : List (Addr × Obj)) (J : (Str → Option Value) → Prop) (s₁ : Shared) (Q : Flow → Shared → Prop) (f : Flow) (s₂ : Shared) : Prop :=
  match f with
  | .ret v => Q (.ret v) s₂
  | .brk => Q .next s₂
  | _ => ∃ h' tk m', s₂ = { s₁ with heap := h', toks := tk } ∧ Fr h₀ L h' m' ∧ News h₀ L h' keep ∧ J m'
theorem lpPost_next {L : Addr} {keep : List (Addr × Obj)} {J : (Str → Option Value) → Prop} {s₁ : Shared} {h' : Heap} {tk : Nat} {m' : Str → Option Value} {n' : List (Addr × Obj)}
    (F : Fr h₀ L h' m') (N : News h₀ L h' n') (hs : ∀ p ∈ keep, p ∈ n') (hj : J m') : LpPost h₀ L keep J s₁ Q .next { s₁ with heap := h', toks := tk } :=
  ⟨h', tk, m', rfl, F, fun p hp => N p (hs p hp), hj⟩
theorem lpPost_cont {L : Addr} {keep : List (Addr × Obj)} {J : (Str → Option Value) → Prop} {s₁ : Shared} {h' : Heap} {tk : Nat} {m' : Str → Option Value} {n' : List (Addr × Obj)}
    (F : Fr h₀ L h' m') (N : News h₀ L h' n') (hs : ∀ p ∈ keep, p ∈ n') (hj : J m') : LpPost h₀ L keep J s₁ Q .cont { s₁ with heap := h', toks := tk } :=
  ⟨h', tk, m', rfl, F, fun p hp => N p (hs p hp), hj⟩
theorem lp_list {l : Addr} {vs : List Value} {nn : Nat} {m₀ : Str → Option Value} {news : List (Addr × Obj)} (J : List Value → (Str → Option Value) → Prop)
    (hh : A.handled = none) (hl : (l, listOf vs.toArray nn) ∈ news) (F : Fr h₀ env.locals s.heap m₀) (N : News h₀ env.locals s.heap news) (hj : J vs m₀)
    (turn : ∀ v rest m₁ h tk own, v ∈ vs → J (v :: rest) m₁ → Fr h₀ env.locals h (fun y => if y = x then some v else m₁ y) → News h₀ env.locals h (news ++ own) →
      wpAny (model prog w) A (execs body env) (LpPost h₀ env.locals (news ++ own) (J rest) { s with heap := h, toks := tk } Q) E { s with heap := h, toks := tk })
    (done : ∀ m₁ h tk, J [] m₁ → Fr h₀ env.locals h m₁ → News h₀ env.locals h news → Q .next { s with heap := h, toks := tk }) :
    wpAny (model prog w) A (pyIter (.ref l)) (fun it s₂ => LoopAtV prog w A h₀ env x body Q E it s₂) E s := by
  refine kdl_iter (fun i m nx => nx = news ∧ J (vs.drop i) m) hh hl F N ⟨rfl, hj⟩ ?_ ?_
  · rintro i v m₁ nx h tk own hv hoff _ ⟨rfl, hJ⟩ F₁ N₁
    have hd : vs.drop i = v :: vs.drop (i + 1) := by
      obtain ⟨hi, e⟩ := List.getElem?_eq_some_iff.mp hv
      rw [List.drop_eq_getElem_cons hi, e]
    rw [hd] at hJ
    refine wpAny_mono (turn v _ m₁ h tk own (List.mem_of_getElem? hv) hJ F₁ N₁) (fun f s₂ p => ?_) fun _ _ e => e
    have up : (∃ h' tk' m', s₂ = { s with heap := h', toks := tk' } ∧ Fr h₀ env.locals h' m' ∧ News h₀ env.locals h' (nx ++ own) ∧ J (vs.drop (i + 1)) m') →
        InvEndG h₀ env.locals (fun m' ny => (l, listOf vs.toArray nn) ∈ ny ∧ ny = nx ∧ J (vs.drop (i + 1)) m') own { s with heap := h, toks := tk } s₂ := by
      rintro ⟨h', tk', m', rfl, F', N', hJ'⟩
      exact ⟨h', tk', m', nx ++ own, nx, rfl, F', N', fun p hp => List.mem_append_left _ hp, fun p hp => List.mem_append_right _ hp, hoff, hl, rfl, hJ'⟩
    cases f with
    | ret v => exact p
    | brk => exact p
    | next => exact up p
    | cont => exact up p
  · rintro m₁ nx h tk ⟨rfl, hJ⟩ F₁ N₁
    rw [List.drop_length] at hJ
    exact done m₁ h tk hJ F₁ N₁

/-- the live names, as they stand -/
def LpJ {σ : Type} (ps : σ → List (Str × Value)) (P : σ → Prop) (m' : Str → Option Value) : Prop :=
  ∃ c : σ, P c ∧ ∀ p ∈ ps c, m' p.1 = some p.2
theorem lp_pack {m : Str → Option Value} {ps : List (Str × Value)} (h : ∀ p ∈ ps, m p.1 = some p.2) : kstB m ps = m :=
  funext fun _ => kstB_eq h fun _ => rfl
theorem fr_pack {L : Addr} {h : Heap} {m : Str → Option Value} (ps : List (Str × Value)) (F : Fr h₀ L h m) (hk : ∀ p ∈ ps, m p.1 = some p.2) : ∃ u, Fr h₀ L h (kstB u ps) :=
  ⟨m, by rw [lp_pack hk]; exact F⟩
theorem lp_pack1 {m : Str → Option Value} {v : Value} {ps : List (Str × Value)} (h : ∀ p ∈ ps, m p.1 = some p.2) : (fun y => if y = x then some v else kstB m ps y) = fun y => if y = x then some v else m y := by
  rw [lp_pack h]
theorem lp_listS {σ : Type} {l : Addr} {vs : List Value} {nn : Nat} {m₀ : Str → Option Value} {news : List (Addr × Obj)} (ps : σ → List (Str × Value)) (P : List Value → σ → Prop) (c₀ : σ)
    (hh : A.handled = none) (hl : (l, listOf vs.toArray nn) ∈ news) (F : Fr h₀ env.locals s.heap m₀) (N : News h₀ env.locals s.heap news) (hk : ∀ p ∈ ps c₀, m₀ p.1 = some p.2) (hj : P vs c₀)
    (turn : ∀ c v rest (u : Str → Option Value) h tk own, v ∈ vs → P (v :: rest) c → Fr h₀ env.locals h (fun y => if y = x then some v else kstB u (ps c) y) → News h₀ env.locals h (news ++ own) →
      wpAny (model prog w) A (execs body env) (LpPost h₀ env.locals (news ++ own) (LpJ ps (P rest)) { s with heap := h, toks := tk } Q) E { s with heap := h, toks := tk })
    (done : ∀ c (u : Str → Option Value) h tk, P [] c → Fr h₀ env.locals h (kstB u (ps c)) → News h₀ env.locals h news → Q .next { s with heap := h, toks := tk }) :
    wpAny (model prog w) A (pyIter (.ref l)) (fun it s₂ => LoopAtV prog w A h₀ env x body Q E it s₂) E s := by
  refine lp_list (fun r m => LpJ ps (P r) m) hh hl F N ⟨c₀, hj, hk⟩ ?_ ?_
  · rintro v rest m₁ h tk own hv ⟨c, hp, h1⟩ F₁ N₁
    exact turn c v rest m₁ h tk own hv hp (by rw [lp_pack1 h1]; exact F₁) N₁
  · rintro m₁ h tk ⟨c, hp, h1⟩ F₁ N₁
    exact done c m₁ h tk hp (by rw [lp_pack h1]; exact F₁) N₁
theorem lp_range {σ : Type} {r : Addr} {a₀ b₀ : Int} {t₀ u₀ v₀ : Tok} {m₀ : Str → Option Value} {news : List (Addr × Obj)} (ps : σ → List (Str × Value)) (P : Nat → σ → Prop) (c₀ : σ)
    (hh : A.handled = none) (hr : IsRange s.heap r a₀ b₀ 1 t₀ u₀ v₀) (hsmall : Builtin.Range.small a₀ b₀ 1 = true) (F : Fr h₀ env.locals s.heap m₀) (N : News h₀ env.locals s.heap news) (hk : ∀ p ∈ ps c₀, m₀ p.1 = some p.2) (hp : P 0 c₀)
    (turn : ∀ c (i : Nat) (k : Int) t (u : Str → Option Value) h tk own, i < (b₀ - a₀).toNat → k = a₀ + (i : Int) → P i c → Fr h₀ env.locals h (fun y => if y = x then some (.int k t) else kstB u (ps c) y) → News h₀ env.locals h (news ++ own) →
      wpAny (model prog w) A (execs body env) (LpPost h₀ env.locals (news ++ own) (LpJ ps (P (i + 1))) { s with heap := h, toks := tk } Q) E { s with heap := h, toks := tk })
    (done : ∀ c (u : Str → Option Value) h tk, P (b₀ - a₀).toNat c → Fr h₀ env.locals h (kstB u (ps c)) → News h₀ env.locals h news → Q .next { s with heap := h, toks := tk }) :
    wpAny (model prog w) A (pyIter (.ref r)) (fun it s₂ => LoopAtV prog w A h₀ env x body Q E it s₂) E s := by
  refine wpAny_pyIter_range hr hsmall ?_
  have hn := rangeSize_nat a₀ b₀
  have W : Walks prog w A s.heap.objs.size [s.heap.objs.size] [s.heap.objs.size] (b₀ - a₀).toNat (fun i v => i < (b₀ - a₀).toNat ∧ ∃ t, v = .int (a₀ + i * 1) t)
      (fun i h => IsRangeIter h s.heap.objs.size (a₀ + (i : Nat) * 1) (((b₀ - a₀).toNat : Int) - (i : Nat)) 1) := (Walks.range hh _ a₀ 1 (b₀ - a₀).toNat).bound
  refine loop_invN (fun i m nx => nx = news ∧ LpJ ps (P i) m) W ?_ ?_ ?_ ?_ (by show IsRangeIter _ _ _ _ _; rw [hn]; simpa using Heap.get?_push_size _ rfl) (F.push _) (fun p hp => ⟨Heap.get?_push_of_some _ (N p hp).1, (N p hp).2⟩) ⟨rfl, c₀, hp, hk⟩ ?_ ?_
  · intro hm
    exact absurd F.ns.lt ((List.mem_singleton.mp hm) ▸ Nat.lt_irrefl _)
  · intro b hb
    rw [List.mem_singleton.mp hb]
    exact next_is_new F
  · intro p hp hI
    exact absurd (Heap.lt_size (N p hp).1) ((List.mem_singleton.mp hI) ▸ Nat.lt_irrefl _)
  · intro p hp hI
    exact absurd (Heap.lt_size (N p hp).1) ((List.mem_singleton.mp hI) ▸ Nat.lt_irrefl _)
  · rintro i v m₁ nx h tk own hi ⟨_, t, rfl⟩ _ hoff ⟨rfl, c, hp, h1⟩ F₁ N₁
    have e1 : a₀ + (i : Int) * 1 = a₀ + (i : Int) := by omega
    rw [e1] at F₁
    refine wpAny_mono (turn c i _ t m₁ h tk own hi rfl hp (by rw [lp_pack1 h1]; exact F₁) N₁) (fun f s₂ p => ?_) fun _ _ e => e
    have up : (∃ h' tk' m', s₂ = { s with heap := h', toks := tk' } ∧ Fr h₀ env.locals h' m' ∧ News h₀ env.locals h' (nx ++ own) ∧ LpJ ps (P (i + 1)) m') →
        InvEndN h₀ env.locals (fun m' ny => ny = nx ∧ LpJ ps (P (i + 1)) m') own (nx.map (·.1)) { s with heap := h, toks := tk } s₂ := by
      rintro ⟨h', tk', m', rfl, F', N', hJ'⟩
      exact ⟨h', tk', m', nx ++ own, nx, rfl, F', N', fun p hp => List.mem_append_left _ hp, fun p hp => List.mem_append_right _ hp, rfl, rfl, hJ'⟩
    cases f with
    | ret v => exact p
    | brk => exact p
    | next => exact up p
    | cont => exact up p
  · rintro m₁ nx h tk ⟨rfl, c, hp, h1⟩ F₁ N₁
    exact done c m₁ h tk hp (by rw [lp_pack h1]; exact F₁) N₁
theorem lp_while {σ : Type} {L : Addr} {test : PySem.Expr} {pos : Pos} {m₀ : Str → Option Value} {news : List (Addr × Obj)} (ps : σ → List (Str × Value)) (P : σ → Prop) (μ : σ → Nat) (c₀ : σ)
    (F : Fr h₀ L s.heap m₀) (N : News h₀ L s.heap news) (hk : ∀ p ∈ ps c₀, m₀ p.1 = some p.2) (hp : P c₀)
    (turn : ∀ c (u : Str → Option Value) h tk, P c → Fr h₀ L h (kstB u (ps c)) → News h₀ L h news →
      wpAny (model prog w) A (isTrue test env (eval test env)) (fun b s₂ =>
        if b = true then wpAny (model prog w) A (execs body env) (LpPost h₀ L news (LpJ ps fun c' => P c' ∧ μ c' < μ c) { s with heap := h, toks := tk } Q) E s₂ else Q .next s₂) E { s with heap := h, toks := tk })
    (hE : PassesOwn (model prog w) A env E := by passes_own) :
    wpAny (model prog w) A (exec (.While test body [] pos) env) Q E s := by
  refine While_inv2 (fun n m nx => nx = news ∧ ∃ c : σ, μ c = n ∧ P c ∧ ∀ p ∈ ps c, m p.1 = some p.2) F N ⟨rfl, c₀, rfl, hp, hk⟩ ?_ hE
  rintro n m₁ nx h tk F₁ N₁ ⟨rfl, c, rfl, hp', h1⟩
  refine wpAny_mono (turn c m₁ h tk hp' (by rw [lp_pack h1]; exact F₁) N₁) (fun b s₂ p => ?_) fun _ _ x => x
  cases b with
  | false => simpa using p
  | true =>
    simp only [if_true] at p ⊢
    refine wpAny_mono p (fun f s₃ q => ?_) fun _ _ x => x
    cases f with
    | ret v => exact q
    | brk => exact q
    | next =>
      obtain ⟨h', tk', m', rfl, F', N', c', ⟨hp9, hm9⟩, hk9⟩ := q
      exact ⟨h', tk', m', nx, μ c', rfl, F', N', hm9, rfl, c', rfl, hp9, hk9⟩
    | cont =>
      obtain ⟨h', tk', m', rfl, F', N', c', ⟨hp9, hm9⟩, hk9⟩ := q
      exact ⟨h', tk', m', nx, μ c', rfl, F', N', hm9, rfl, c', rfl, hp9, hk9⟩
theorem lp_forT {σ : Type} {elts : List PySem.Expr} {x1 : Nat} {tp pos : Pos} {iter : PySem.Expr} {l : Addr} {vs : List Value} {nn : Nat} {m₀ : Str → Option Value} {news : List (Addr × Obj)} (ps : σ → List (Str × Value)) (P : List Value → σ → Prop) (c₀ : σ)
    (hev : wpAny (model prog w) A (eval iter env) (fun xv s₁ => xv = .ref l ∧ s₁ = s) E s) (hs : ∀ x, foldedSetIterable iter env x = pure x)
    (hh : A.handled = none) (hl : (l, listOf vs.toArray nn) ∈ news) (F : Fr h₀ env.locals s.heap m₀) (N : News h₀ env.locals s.heap news) (hk : ∀ p ∈ ps c₀, m₀ p.1 = some p.2) (hj : P vs c₀) (hvs : ∀ v ∈ vs, ∃ T, v = .ref T)
    (turn : ∀ c v rest (u : Str → Option Value) h tk own, v ∈ vs → P (v :: rest) c → Fr h₀ env.locals h (kstB u (ps c)) → News h₀ env.locals h (news ++ own) →
      wpAny (model prog w) A (assign (.Tuple elts x1 tp) env v) (fun _ s₂ => wpAny (model prog w) A (execs body env) (LpPost h₀ env.locals (news ++ own) (LpJ ps (P rest)) { s with heap := h, toks := tk } Q) E s₂) E { s with heap := h, toks := tk })
    (done : ∀ c (u : Str → Option Value) h tk, P [] c → Fr h₀ env.locals h (kstB u (ps c)) → News h₀ env.locals h news → Q .next { s with heap := h, toks := tk })
    (hE : PassesOwn (model prog w) A env E := by passes_own) :
    wpAny (model prog w) A (exec (.For (.Tuple elts x1 tp) iter body [] pos) env) Q E s := by
  have hol : s.heap.get? l = some (listOf vs.toArray nn) := (N _ hl).1
  have hls : s.heap.IsList l vs.toArray := ⟨_, hol, rfl, nn, rfl⟩
  have hne : l ≠ s.heap.objs.size := Nat.ne_of_lt (Heap.lt_size hol)
  refine wpAny_For (wpAny_mono hev (fun xv s₁ h₁ => ?_) fun _ _ e => e) hs
  obtain ⟨rfl, rfl⟩ := h₁
  refine wpAny_pyIter_list hls ?_
  have W := Walks.list (prog := prog) (w := w) hh s₁.heap.objs.size l hne vs.toArray
  have hlen : vs.toArray.size = vs.length := by simp
  rw [hlen] at W
  have hLf : env.locals ∉ [s₁.heap.objs.size, l] := by
    intro hm
    rcases List.mem_cons.mp hm with e | hm
    · exact absurd F.ns.lt (e ▸ Nat.lt_irrefl _)
    · exact (N _ hl).2.1 ((List.mem_singleton.mp hm).symm)
  have hwr : ∀ b ∈ [s₁.heap.objs.size], h₀.get? b = none := by
    intro b hb
    rw [List.mem_singleton.mp hb]
    exact next_is_new F
  have hnw : ∀ p ∈ news, p.1 ∉ [s₁.heap.objs.size] := by
    intro p hp hI
    exact absurd (Heap.lt_size (N p hp).1) ((List.mem_singleton.mp hI) ▸ Nat.lt_irrefl _)
  have hLw : env.locals ∉ [s₁.heap.objs.size] := fun h => hLf (W.sub _ h)
  have old : ∀ b o, h₀.get? b = some o → b ∉ [s₁.heap.objs.size] := fun b o e hb => by rw [hwr b hb] at e; cases e
  refine codeAny_forLoop_any (R := fun r s' => match r with | .ok f => Q f s' | .error e => cameBackBy (model prog w) A env E e s')
    (fun k s' => ∃ h' tk m' i, s' = { s₁ with heap := h', toks := tk } ∧ (h'.IsListIter s₁.heap.objs.size l i ∧ h'.IsList l vs.toArray) ∧ Fr h₀ env.locals h' m' ∧ News h₀ env.locals h' news ∧ LpJ ps (P (vs.drop i)) m' ∧ i ≤ vs.length ∧ k = vs.length + 1 - i) ?_ (vs.length + 1)
    ⟨_, s₁.toks, m₀, 0, rfl, ⟨⟨_, Heap.get?_push_size _ rfl, rfl, rfl⟩, hls.at fun o e => Heap.get?_push_of_some _ e⟩, F.push _, (fun p hp => ⟨Heap.get?_push_of_some _ (N p hp).1, (N p hp).2⟩), ⟨c₀, hj, hk⟩, Nat.zero_le _, rfl⟩
  rintro k s' ⟨h', tk, m', i, rfl, hst', F', N', hJ, hi, rfl⟩
  have next : ∀ h₁ : Heap, (∀ b o, b ∉ [s₁.heap.objs.size] → h'.get? b = some o → h₁.get? b = some o) → Fr h₀ env.locals h₁ m' ∧ News h₀ env.locals h₁ news := fun h₁ hk₁ =>
    ⟨⟨F'.ns.at' fun o e => hk₁ _ o hLw e, fun b o e => hk₁ b o (old b o e) (F'.keep b o e), F'.above⟩, fun p hp => ⟨hk₁ _ _ (hnw p hp) (N' p hp).1, (N' p hp).2⟩⟩
  by_cases hlt : i < vs.length
  · refine W.item i _ _ _ hlt hst' fun v h₁ tk₁ hP hst₁ hk₁ => ?_
    obtain ⟨F₁, N₁⟩ := next h₁ hk₁
    have Nown : News h₀ env.locals h₁ (ownOf h₀ [s₁.heap.objs.size, l] h₁) := news_ownOf hLf
    have hv : vs[i]? = some v := by simpa using hP
    obtain ⟨T, rfl⟩ := hvs v (List.mem_of_getElem? hv)
    have hd : vs.drop i = Value.ref T :: vs.drop (i + 1) := by
      obtain ⟨hi', e⟩ := List.getElem?_eq_some_iff.mp hv
      rw [List.drop_eq_getElem_cons hi', e]
    obtain ⟨c, hp, h1⟩ := hJ
    rw [hd] at hp
    refine wpAny_letOwnedTupleGo_listiter hst₁.1 ?_
    refine wpAny_mono (turn c _ _ m' h₁ tk₁ (ownOf h₀ [s₁.heap.objs.size, l] h₁) (List.mem_of_getElem? hv) hp (by rw [lp_pack h1]; exact F₁) (fun p hp => (List.mem_append.mp hp).elim (N₁ p) (Nown p)))
      (fun _ s₂ h₂ => wpAny_mono h₂ (fun f s₃ h₃ => ?_) hE) hE
    have up : (∃ h' tk' m', s₃ = { s₁ with heap := h', toks := tk' } ∧ Fr h₀ env.locals h' m' ∧ News h₀ env.locals h' (news ++ ownOf h₀ [s₁.heap.objs.size, l] h₁) ∧ LpJ ps (P (vs.drop (i + 1))) m') →
        ∃ m, m < vs.length + 1 - i ∧ ∃ h' tk m' i, s₃ = { s₁ with heap := h', toks := tk } ∧ (h'.IsListIter s₁.heap.objs.size l i ∧ h'.IsList l vs.toArray) ∧ Fr h₀ env.locals h' m' ∧ News h₀ env.locals h' news ∧ LpJ ps (P (vs.drop i)) m' ∧ i ≤ vs.length ∧ m = vs.length + 1 - i := by
      rintro ⟨h₃', tk₃, m₂, rfl, F₃, N₃, hJ₃⟩
      refine ⟨vs.length + 1 - (i + 1), by omega, h₃', tk₃, m₂, i + 1, rfl, ?_, F₃, fun p hp => N₃ p (List.mem_append_left _ hp), hJ₃, hlt, rfl⟩
      refine W.frame _ _ _ hst₁ fun b hb o e => ?_
      cases hn : h₀.get? b with
      | some o₀ =>
        have : o₀ = o := by have := F₁.keep b o₀ hn; rw [e] at this; exact (Option.some.inj this).symm
        exact this ▸ F₃.keep b o₀ hn
      | none => exact (N₃ _ (List.mem_append_right _ (mem_ownOf hb hn e))).1
    cases f with
    | ret v => exact h₃
    | brk => exact h₃
    | next => exact up h₃
    | cont => exact up h₃
  · have hin : i = vs.length := by omega
    subst hin
    refine W.done _ _ _ hst' fun h₁ tk₁ hk₁ => wpAny_execs_nil ?_
    obtain ⟨F₁, N₁⟩ := next h₁ hk₁
    obtain ⟨c, hp, h1⟩ := hJ
    rw [List.drop_length] at hp
    exact done c m' h₁ tk₁ hp (by rw [lp_pack h1]; exact F₁) N₁
end
end Mine
end L0
section M0
open PySem PySem.W PyProof.Rows PySem.Calls PyProof.V PySem.Spec
set_option Elab.async false
namespace Mine
def isHex (c : Nat) : Bool := (48 ≤ c && c ≤ 57) || (97 ≤ c && c ≤ 102) || (65 ≤ c && c ≤ 70)
def hexV (c : Nat) : Nat := if c ≤ 57 then c - 48 else if c ≤ 70 then c - 55 else c - 87
/-- what decode appends for the rest of a line -/
def dlE (e : List Nat) : List Nat → List Nat
  | [] => e
  | [c] => if c = 61 then [] else c :: e
  | [c, d] => c :: dlE e [d]
  | c :: a :: b :: r => if c = 61 ∧ isHex a = true ∧ isHex b = true then (hexV a * 16 + hexV b) :: dlE e r else c :: dlE e (a :: b :: r)
/-- a text out of its codes -/
def S (l : List Nat) : Str := ⟨l.toArray⟩
theorem S_cps (x : Str) : S x.cps.toList = x := rfl
theorem S_len (l : List Nat) : (S l).length = l.length := by simp [S, Str.length]
theorem S_append (a b : List Nat) : S a ++ S b = S (a ++ b) := by
  show Str.append _ _ = _
  simp [S, Str.append]
/-- what decode appends for the lines -/
def outL (e : List Nat) (ys : List (Str × Tok)) : List Nat := (ys.map fun y => dlE e (PySem.Txt.rstrip y.1).cps.toList).flatten
def wtL (ys : List (Str × Tok)) : Nat := (ys.map fun y => y.1.length + 2).sum
end Mine
end M0
section I16
open PySem PySem.W PyProof.Rows PySem.Calls PySem.NumText
set_option Elab.async false
set_option maxRecDepth 100000
set_option maxHeartbeats 8000000
namespace Mine
theorem hex_mem {c : Nat} (h : isHex c = true) : c ∈ [48,49,50,51,52,53,54,55,56,57,97,98,99,100,101,102,65,66,67,68,69,70] := by
  simp only [isHex, Bool.or_eq_true, Bool.and_eq_true, decide_eq_true_eq] at h
  simp only [List.mem_cons, List.not_mem_nil, or_false]
  omega
theorem read16 : ∀ a ∈ [48,49,50,51,52,53,54,55,56,57,97,98,99,100,101,102,65,66,67,68,69,70], ∀ b ∈ [48,49,50,51,52,53,54,55,56,57,97,98,99,100,101,102,65,66,67,68,69,70],
    sign ([a, b].dropWhile NumText.blank) = (false, [a, b]) ∧ based 16 [a, b] = (16, false, [a, b]) ∧ digits? 16 ([a, b].reverse.dropWhile NumText.blank).reverse = some #[hexV a, hexV b] := by decide +kernel
theorem read16' {a b : Nat} (ha : isHex a = true) (hb : isHex b = true) : (int_private% "readNumeral") 0 16 [a, b] = (int_private% "Numeral.value") ((hexV a * 16 + hexV b : Nat) : Int) := by
  obtain ⟨h1, h2, h3⟩ := read16 a (hex_mem ha) b (hex_mem hb)
  rw [readNumeral_eq, h1]
  dsimp only
  rw [h2]
  dsimp only
  rw [h3]
  have e : (#[hexV a, hexV b] : Array Nat).foldl (fun acc d => acc * 16 + d) 0 = hexV a * 16 + hexV b := by
    show (0 * 16 + hexV a) * 16 + hexV b = _
    omega
  unfold judge
  simp only [e]
  rfl
theorem wp_text16 {M : Model} {A : Around} {E : Value → Shared → Prop} {s : Shared} {Q : Value → Shared → Prop} {v : Value} {text : List Nat} {n : Int}
    (hs : (text.takeWhile (· != 0)).length ≤ 640) (hr : (int_private% "readNumeral") 0 16 (text.takeWhile (· != 0)) = (int_private% "Numeral.value") n)
    (ha : ((text.takeWhile (· != 0)).length == text.length) = true) (h : Q (.int n s.toks) { s with toks := s.toks + 1 }) :
    wpAny M A ((int_private% "intFromText") v text 16) Q E s := by
  obtain ⟨hp, g, d, tk, os⟩ := s
  repeat (any_goals (first
    | assumption
    | (with_reducible refine wpAny_ite_true (decide_eq_true hs) ?_)
    | (with_reducible refine wpAny_ite_true (decide_eq_true ha) ?_)
    | wp_step))
  all_goals (try rw [hr])
  all_goals (try dsimp only)
  repeat (any_goals (first
    | assumption
    | (with_reducible refine wpAny_ite_true (decide_eq_true hs) ?_)
    | (with_reducible refine wpAny_ite_true (decide_eq_true ha) ?_)
    | wp_step))
theorem gives16 {a b : Nat} {t u : Tok} (ha : isHex a = true) (hb : isHex b = true) : Gives (Builtin.«int.__new__» ⟨[.type "int", .str ⟨#[a, b]⟩ t, .int 16 u], []⟩) (.int ((hexV a * 16 + hexV b : Nat) : Int)) :=
  .of_wp fun M A E s Q h => by
    obtain ⟨hp, g, d, tk, os⟩ := s
    have f1 := F.conv_sub_int
    have f2 := F.madeHere_int
    have hr := read16' ha hb
    have h1 : a < 128 ∧ a ≠ 0 := by simp only [isHex, Bool.or_eq_true, Bool.and_eq_true, decide_eq_true_eq] at ha; omega
    have h2 : b < 128 ∧ b ≠ 0 := by simp only [isHex, Bool.or_eq_true, Bool.and_eq_true, decide_eq_true_eq] at hb; omega
    have hw : (List.takeWhile (· != 0) [a, b]) = [a, b] := by simp [h1.2, h2.2]
    have hall : ((#[a, b] : Array Nat).all (· < 128)) = true := by simp [h1.1, h2.1]
    have et : (if (({ cps := #[a, b] } : Str).cps.all (· < 128)) = true then ({ cps := #[a, b] } : Str).cps.toList else Unicode.numberText ({ cps := #[a, b] } : Str).cps.toList) = [a, b] := if_pos hall
    have hk := KIN.Hid.mk (And.intro (And.intro hw hr) et)
    clear hr hw hall ha hb h1 h2 et
    repeat (any_goals (first
      | assumption
      | ((with_reducible show wpAny _ _ ((int_private% "intFromText") _ _ _) _ _ _); rw [hk.out.2]; refine wp_text16 (by rw [hk.out.1.1]; exact Nat.le_of_ble_eq_true rfl) (by rw [hk.out.1.1]; exact hk.out.1.2) (by rw [hk.out.1.1]; exact rfl) ?_)
      | wp_step))
    all_goals first | exact ⟨_, rfl, h⟩ | skip
theorem call_int16 {prog : Program} {w : World} {A : Around} {E : Value → Shared → Prop} {s : Shared} {Q : Value → Shared → Prop} {a b : Nat} {t u : Tok} (ha : isHex a = true) (hb : isHex b = true) (h : Q (.int ((hexV a * 16 + hexV b : Nat) : Int) s.toks) { s with toks := s.toks + 1 }) :
    wpAny (model prog w) A (call (.type "int") [.str ⟨#[a, b]⟩ t, .int 16 u]) Q E s :=
  callType_new F.called_int F.newNe_int (by kernel_rfl) (by kernel_rfl) (fun obj => F.args_object_init_3 obj _ _) F.entry_int_new (gives16 ha hb).meets (show (Made.int _).post _ s from ⟨rfl, h⟩)
end Mine
end I16
section M1
open PySem PySem.W PyProof.Rows PySem.Calls PyProof.V PySem.Spec PySem.Builtin PySem.Builtin.Str
set_option Elab.async false
namespace Mine
theorem slice_ss {x : Str} {i j : Int} (h0 : 0 ≤ i) (h1 : i ≤ j) (h2 : j ≤ (x.length : Int)) : Txt.slice x (some i) (some j) = S ((x.cps.toList.drop i.toNat).take (j - i).toNat) :=
  eq_of_beq (slice_closes ⟨h0, h1, by simpa [Str.length] using h2⟩)
theorem slice_ns {x : Str} {j : Int} (h1 : 0 ≤ j) (h2 : j ≤ (x.length : Int)) : Txt.slice x none (some j) = S (x.cps.toList.take j.toNat) := by
  have h := eq_of_beq (slice_closes_to (x := x) (j := j) ⟨h1, by simpa [Str.length] using h2⟩)
  rw [h]
  simp [S]
theorem slice_sn {x : Str} {i : Int} (h1 : 0 ≤ i) (h2 : i ≤ (x.length : Int)) : Txt.slice x (some i) none = S (x.cps.toList.drop i.toNat) := by
  have h := eq_of_beq (slice_closes_from (x := x) (i := i) ⟨h1, by simpa [Str.length] using h2⟩)
  rw [h]
  show (⟨_⟩ : Str) = ⟨_⟩
  congr 2
  rw [List.take_of_length_le]
  simp only [List.length_drop]
  omega
theorem slice_nneg {x : Str} {j : Int} (h0 : j < 0) (h1 : -(x.length : Int) ≤ j) : Txt.slice x none (some j) = S (x.cps.toList.take (j + x.length).toNat) := by
  have h := eq_of_beq (slice_closes_to_neg (x := x) (j := j) h0 h1 rfl)
  rw [h]
  simp [S]
theorem item_nat {x : Str} {i : Nat} (h : i < x.length) : Txt.item x (i : Int) = S [x.cps.toList.getD i 0] := by
  have h := eq_of_beq (item_closes (x := x) (i := (i : Int)) ⟨by omega, by omega⟩)
  rw [h]
  simp only [S, Int.toNat_natCast]
  simp [List.getD_eq_getElem?_getD]
theorem item_last {x : Str} (h : 0 < x.length) : Txt.item x (-1) = S [x.cps.toList.getD (x.length - 1) 0] := by
  have h := eq_of_beq (item_closes_neg (x := x) (i := -1) (by omega) (by omega) rfl)
  rw [h]
  simp only [S]
  rw [show (-1 + (x.length : Int)).toNat = x.length - 1 by omega]
  simp [List.getD_eq_getElem?_getD]
theorem beq_one (a b : Nat) : (S [a] == S [b]) = (a == b) := by
  rw [Bool.eq_iff_iff, beq_iff_eq, beq_iff_eq]
  constructor
  · intro h; injection h with h; simpa using h
  · intro h; rw [h]
end Mine
end M1
section M2
open PySem PySem.W PyProof.Rows PySem.Calls PyProof.V PySem.Spec PySem.Builtin PySem.Builtin.Str
set_option Elab.async false
namespace Mine
theorem occ_hex (c : Nat) : (occurrences (Str.ofString "0123456789abcdefABCDEF") (S [c]) 0 (Str.ofString "0123456789abcdefABCDEF").length 1).isEmpty = !isHex c := by
  have h := StrLaws.found_one (Str.ofString "0123456789abcdefABCDEF") c
  have e : (Str.ofString "0123456789abcdefABCDEF").cps.toList = [48,49,50,51,52,53,54,55,56,57,97,98,99,100,101,102,65,66,67,68,69,70] := by decide +kernel
  rw [e] at h
  have h2 : decide (c ∈ [48,49,50,51,52,53,54,55,56,57,97,98,99,100,101,102,65,66,67,68,69,70]) = isHex c := by
    rw [Bool.eq_iff_iff]
    simp only [isHex, decide_eq_true_eq, List.mem_cons, List.not_mem_nil, or_false, Bool.or_eq_true, Bool.and_eq_true]
    omega
  rw [h2] at h
  rw [← h]
  simp [S]
theorem dlE_lit {e : List Nat} {c : Nat} {r : List Nat} (h : c ≠ 61) : dlE e (c :: r) = c :: dlE e r := by
  match r with
  | [] => simp [dlE, h]
  | [d] => simp [dlE]
  | a :: b :: r => simp [dlE, h]
theorem dlE_hex {e : List Nat} {a b : Nat} {r : List Nat} (ha : isHex a = true) (hb : isHex b = true) : dlE e (61 :: a :: b :: r) = (hexV a * 16 + hexV b) :: dlE e r := by
  simp [dlE, ha, hb]
theorem dlE_no {e : List Nat} {a b : Nat} {r : List Nat} (h : ¬ (isHex a = true ∧ isHex b = true)) : dlE e (61 :: a :: b :: r) = 61 :: dlE e (a :: b :: r) := by
  rw [dlE]
  simp [h]
theorem dlE_len (e : List Nat) : ∀ n l, l.length ≤ n → (dlE e l).length ≤ l.length + e.length := by
  intro n
  induction n with
  | zero => intro l h; cases l with
    | nil => simp [dlE]
    | cons c r => simp at h
  | succ n ih =>
    intro l h
    match l with
    | [] => simp [dlE]
    | [c] => simp only [dlE]; split <;> simp <;> omega
    | [c, d] =>
      have := ih [d] (by simp at h ⊢; omega)
      simp [dlE] at this ⊢; omega
    | c :: a :: b :: r =>
      rw [dlE]
      split
      · have := ih r (by simp at h; omega)
        simp at this ⊢; omega
      · have := ih (a :: b :: r) (by simp at h ⊢; omega)
        simp at this ⊢; omega
/-- what is still to come from place i on -/
def tailE (e l : List Nat) (i : Nat) : List Nat := if i < l.length then dlE e (l.drop i) else []
theorem tailE_out {e l : List Nat} {i : Nat} (h : ¬ i < l.length) : tailE e l i = [] := by unfold tailE; rw [if_neg h]
theorem tailE_in {e l : List Nat} {i : Nat} (h : i < l.length) : tailE e l i = dlE e (l.drop i) := by unfold tailE; rw [if_pos h]
theorem drop_cons {l : List Nat} {i : Nat} (h : i < l.length) : l.drop i = l.getD i 0 :: l.drop (i + 1) := by
  rw [List.drop_eq_getElem_cons h, List.getD_eq_getElem?_getD, List.getElem?_eq_getElem h]
  rfl
/-- the step's sum: the rest behind j is the tail there, with the line's end where it is the end -/
theorem rest_at {e l : List Nat} {j : Nat} (h : j ≤ l.length) : dlE e (l.drop j) = (if j = l.length then e else []) ++ tailE e l j := by
  by_cases hj : j = l.length
  · rw [if_pos hj, tailE_out (by omega), hj, List.drop_length, List.append_nil]
    simp [dlE]
  · rw [if_neg hj, tailE_in (by omega), List.nil_append]
theorem step_lit {e l : List Nat} {i : Nat} (h : i < l.length) (hc : l.getD i 0 ≠ 61) : tailE e l i = l.getD i 0 :: ((if i + 1 = l.length then e else []) ++ tailE e l (i + 1)) := by
  rw [tailE_in h, drop_cons h, dlE_lit hc, rest_at (by omega)]
theorem step_lone {e l : List Nat} {i : Nat} (hc : l.getD i 0 = 61) (h1 : i + 1 = l.length) : tailE e l i = [] := by
  rw [tailE_in (by omega), drop_cons (by omega), hc, h1, List.drop_length]
  simp [dlE]
theorem step_hex {e l : List Nat} {i : Nat} (hc : l.getD i 0 = 61) (h : i + 2 < l.length) (ha : isHex (l.getD (i + 1) 0) = true) (hb : isHex (l.getD (i + 2) 0) = true) :
    tailE e l i = (hexV (l.getD (i + 1) 0) * 16 + hexV (l.getD (i + 2) 0)) :: ((if i + 3 = l.length then e else []) ++ tailE e l (i + 3)) := by
  rw [tailE_in (by omega), drop_cons (by omega), drop_cons (by omega), drop_cons (by omega), hc, dlE_hex ha hb, rest_at (by omega)]
theorem step_no {e l : List Nat} {i : Nat} (hc : l.getD i 0 = 61) (h : i + 1 < l.length) (hn : i + 2 < l.length → ¬ (isHex (l.getD (i + 1) 0) = true ∧ isHex (l.getD (i + 2) 0) = true)) :
    tailE e l i = l.getD i 0 :: ((if i + 1 = l.length then e else []) ++ tailE e l (i + 1)) := by
  rw [tailE_in (by omega), drop_cons (by omega), hc]
  by_cases h2 : i + 2 < l.length
  · rw [drop_cons (l := l) (i := i + 1) (by omega), drop_cons (l := l) (i := i + 1 + 1) (by omega), dlE_no (hn h2), ← drop_cons (l := l) (i := i + 1 + 1) (by omega), ← drop_cons (l := l) (i := i + 1) (by omega), rest_at (by omega)]
  · have h3 : l.drop (i + 1) = [l.getD (i + 1) 0] := by
      rw [drop_cons (by omega), List.drop_of_length_le (by omega)]
    rw [← rest_at (e := e) (l := l) (j := i + 1) (by omega), h3]
    simp [dlE]
theorem at_item {L : Str} {i : Nat} (h : i < L.length) {b : Bool} (hn : (Txt.item L (i : Int) != Str.ofString "=") = b) : (L.cps.toList.getD i 0 != 61) = b := by
  rw [item_nat h] at hn
  have e : Str.ofString "=" = S [61] := by decide +kernel
  rw [e] at hn
  rw [← hn]
  show (!(_ == _)) = !(_ == _)
  rw [beq_one]
theorem at_hex {L : Str} {i : Int} {j : Nat} (hi : i = (j : Int)) (h : j < L.length) {b : Bool} (hn : (occurrences (Str.ofString "0123456789abcdefABCDEF") (Txt.item L i) 0 (Str.ofString "0123456789abcdefABCDEF").length 1).isEmpty = b) : isHex (L.cps.toList.getD j 0) = !b := by
  rw [hi, item_nat h, occ_hex] at hn
  rw [← hn, Bool.not_not]
theorem clen (L : Str) : L.cps.toList.length = L.length := rfl
end Mine
namespace Mine
theorem cat_list (a b : Str) : (a ++ b).cps.toList = a.cps.toList ++ b.cps.toList := by
  show (Str.append a b).cps.toList = _
  simp [Str.append]
theorem w_end {e L d : Str} {i : Nat} {T : List Nat} (hi : i < L.length) (hP : d.cps.toList ++ tailE e.cps.toList L.cps.toList i = T)
    (ht : tailE e.cps.toList L.cps.toList i = L.cps.toList.getD i 0 :: ((if i + 1 = L.cps.toList.length then e.cps.toList else []) ++ tailE e.cps.toList L.cps.toList (i + 1))) (h1 : (i : Int) + 1 = (L.length : Int)) :
    (d ++ Txt.item L (i : Int) ++ e).cps.toList ++ tailE e.cps.toList L.cps.toList (i + 1) = T := by
  rw [← hP, ht, cat_list, cat_list, item_nat hi, if_pos (by rw [clen]; omega)]
  simp [S]
theorem w_mid {e L d : Str} {i : Nat} {T : List Nat} (hi : i < L.length) (hP : d.cps.toList ++ tailE e.cps.toList L.cps.toList i = T)
    (ht : tailE e.cps.toList L.cps.toList i = L.cps.toList.getD i 0 :: ((if i + 1 = L.cps.toList.length then e.cps.toList else []) ++ tailE e.cps.toList L.cps.toList (i + 1))) (h1 : (i : Int) + 1 ≠ (L.length : Int)) :
    (d ++ Txt.item L (i : Int)).cps.toList ++ tailE e.cps.toList L.cps.toList (i + 1) = T := by
  rw [← hP, ht, cat_list, item_nat hi, if_neg (by rw [clen]; omega)]
  simp [S]
theorem w_hexEnd {e L d : Str} {i v : Nat} {T : List Nat} (hP : d.cps.toList ++ tailE e.cps.toList L.cps.toList i = T)
    (ht : tailE e.cps.toList L.cps.toList i = v :: ((if i + 3 = L.cps.toList.length then e.cps.toList else []) ++ tailE e.cps.toList L.cps.toList (i + 3))) (h1 : (i : Int) + 3 = (L.length : Int)) :
    (d ++ S [v] ++ e).cps.toList ++ tailE e.cps.toList L.cps.toList (i + 3) = T := by
  rw [← hP, ht, cat_list, cat_list, if_pos (by rw [clen]; omega)]
  simp [S]
theorem w_hexMid {e L d : Str} {i v : Nat} {T : List Nat} (hP : d.cps.toList ++ tailE e.cps.toList L.cps.toList i = T)
    (ht : tailE e.cps.toList L.cps.toList i = v :: ((if i + 3 = L.cps.toList.length then e.cps.toList else []) ++ tailE e.cps.toList L.cps.toList (i + 3))) (h1 : (i : Int) + 3 ≠ (L.length : Int)) :
    (d ++ S [v]).cps.toList ++ tailE e.cps.toList L.cps.toList (i + 3) = T := by
  rw [← hP, ht, cat_list, if_neg (by rw [clen]; omega)]
  simp [S]
theorem w_lit {e L : Str} {i : Nat} (hi : i < L.length) (hn : (Txt.item L (i : Int) != Str.ofString "=") = true) :
    tailE e.cps.toList L.cps.toList i = L.cps.toList.getD i 0 :: ((if i + 1 = L.cps.toList.length then e.cps.toList else []) ++ tailE e.cps.toList L.cps.toList (i + 1)) :=
  step_lit hi (by simpa using at_item hi hn)
theorem w_eq {L : Str} {i : Nat} (hi : i < L.length) (hn : (Txt.item L (i : Int) != Str.ofString "=") = false) : L.cps.toList.getD i 0 = 61 := by simpa using at_item hi hn
theorem w_no1 {e L : Str} {i : Nat} (hi : i < L.length) (hn : (Txt.item L (i : Int) != Str.ofString "=") = false) (h2 : (i : Int) + 2 < (L.length : Int))
    (ha : (occurrences (Str.ofString "0123456789abcdefABCDEF") (Txt.item L ((i : Int) + 1)) 0 (Str.ofString "0123456789abcdefABCDEF").length 1).isEmpty = true) :
    tailE e.cps.toList L.cps.toList i = L.cps.toList.getD i 0 :: ((if i + 1 = L.cps.toList.length then e.cps.toList else []) ++ tailE e.cps.toList L.cps.toList (i + 1)) := by
  refine step_no (w_eq hi hn) (by rw [clen]; omega) fun _ h => ?_
  have := at_hex (j := i + 1) (by omega) (by omega) ha
  rw [this] at h
  exact absurd h.1 (by decide)
theorem w_no2 {e L : Str} {i : Nat} (hi : i < L.length) (hn : (Txt.item L (i : Int) != Str.ofString "=") = false) (h2 : (i : Int) + 2 < (L.length : Int))
    (ha : (occurrences (Str.ofString "0123456789abcdefABCDEF") (Txt.item L ((i : Int) + 2)) 0 (Str.ofString "0123456789abcdefABCDEF").length 1).isEmpty = true) :
    tailE e.cps.toList L.cps.toList i = L.cps.toList.getD i 0 :: ((if i + 1 = L.cps.toList.length then e.cps.toList else []) ++ tailE e.cps.toList L.cps.toList (i + 1)) := by
  refine step_no (w_eq hi hn) (by rw [clen]; omega) fun _ h => ?_
  have := at_hex (j := i + 2) (by omega) (by omega) ha
  rw [this] at h
  exact absurd h.2 (by decide)
theorem w_no3 {e L : Str} {i : Nat} (hi : i < L.length) (hn : (Txt.item L (i : Int) != Str.ofString "=") = false) (h1 : (i : Int) + 1 ≠ (L.length : Int)) (h2 : ¬ (i : Int) + 2 < (L.length : Int)) :
    tailE e.cps.toList L.cps.toList i = L.cps.toList.getD i 0 :: ((if i + 1 = L.cps.toList.length then e.cps.toList else []) ++ tailE e.cps.toList L.cps.toList (i + 1)) :=
  step_no (w_eq hi hn) (by rw [clen]; omega) fun h => absurd h (by rw [clen]; omega)
theorem w_hex {e L : Str} {i : Nat} (hi : i < L.length) (hn : (Txt.item L (i : Int) != Str.ofString "=") = false) (h2 : (i : Int) + 2 < (L.length : Int))
    (ha : (occurrences (Str.ofString "0123456789abcdefABCDEF") (Txt.item L ((i : Int) + 1)) 0 (Str.ofString "0123456789abcdefABCDEF").length 1).isEmpty = false)
    (hb : (occurrences (Str.ofString "0123456789abcdefABCDEF") (Txt.item L ((i : Int) + 2)) 0 (Str.ofString "0123456789abcdefABCDEF").length 1).isEmpty = false) :
    ∃ a b, isHex a = true ∧ isHex b = true ∧ Txt.slice L (some (i : Int)) (some ((i : Int) + 3)) = S [61, a, b] ∧
      tailE e.cps.toList L.cps.toList i = (hexV a * 16 + hexV b) :: ((if i + 3 = L.cps.toList.length then e.cps.toList else []) ++ tailE e.cps.toList L.cps.toList (i + 3)) := by
  have h1 := at_hex (j := i + 1) (by omega) (by omega) ha
  have h3 := at_hex (j := i + 2) (by omega) (by omega) hb
  refine ⟨_, _, h1, h3, ?_, step_hex (w_eq hi hn) (by rw [clen]; omega) h1 h3⟩
  rw [slice_ss (by omega) (by omega) (by omega)]
  have e1 : ((i : Int) + 3 - i).toNat = 3 := by omega
  rw [e1, Int.toNat_natCast, drop_cons (i := i) (by rw [clen]; omega), drop_cons (i := i + 1) (by rw [clen]; omega), drop_cons (i := i + 1 + 1) (by rw [clen]; omega), w_eq hi hn]
  rfl
end Mine
namespace Mine
theorem outL_cons {e : List Nat} {y : Str} {t : Tok} {ys : List (Str × Tok)} : outL e ((y, t) :: ys) = dlE e (Txt.rstrip y).cps.toList ++ outL e ys := by
  simp [outL]
theorem wtL_cons {y : Str} {t : Tok} {ys : List (Str × Tok)} : wtL ((y, t) :: ys) = y.length + 2 + wtL ys := by
  simp [wtL]
theorem wtL_le {x : Str} {l : List (Str × Tok)} (h : l.map (fun p => p.1) = Txt.lines x) : wtL l ≤ 2 * (x.length + 1) := by
  have hw := StrLaws.lines_weight x
  rw [← h] at hw
  have e : ∀ l : List (Str × Tok), wtL l = ((l.map (fun p => p.1)).map (·.length)).sum + 2 * (l.map (fun p => p.1)).length := by
    intro l
    induction l with
    | nil => rfl
    | cons y ys ih =>
      rw [show wtL (y :: ys) = y.1.length + 2 + wtL ys from wtL_cons, ih]
      simp only [List.map_cons, List.sum_cons, List.length_cons]
      omega
  rw [e]
  omega
theorem rstrip_le (y : Str) : (Txt.rstrip y).length ≤ y.length := len_rstrip y
end Mine
namespace Mine
def linesOut (e : List Nat) (xs : List Str) : List Nat := (xs.map fun y => dlE e (Txt.rstrip y).cps.toList).flatten
def chop (e d : List Nat) : List Nat := if d.drop (d.length - e.length) = e then d.take (d.length - e.length) else d
def isEnd (c : Nat) : Bool := c == 13 || c == 10
/-- what decode hands back -/
def decS (x e : Str) : Str :=
  if x.length = 0 then x
  else S (if isEnd (x.cps.toList.getD (x.length - 1) 0) = true then linesOut e.cps.toList (Txt.lines x) else chop e.cps.toList (linesOut e.cps.toList (Txt.lines x)))
theorem outL_lines {e : List Nat} {x : Str} {l : List (Str × Tok)} (h : l.map (fun p => p.1) = Txt.lines x) : outL e l = linesOut e (Txt.lines x) := by
  unfold outL linesOut
  rw [← h, List.map_map]
  rfl
theorem occ_end (c : Nat) : (occurrences (Str.ofString "\r\n") (S [c]) 0 (Str.ofString "\r\n").length 1).isEmpty = !isEnd c := by
  have h := StrLaws.found_one (Str.ofString "\r\n") c
  have e : (Str.ofString "\r\n").cps.toList = [13, 10] := by decide +kernel
  rw [e] at h
  have h2 : decide (c ∈ [13, 10]) = isEnd c := by
    rw [Bool.eq_iff_iff]
    simp only [isEnd, decide_eq_true_eq, List.mem_cons, List.not_mem_nil, or_false, Bool.or_eq_true, beq_iff_eq]
  rw [h2] at h
  rw [← h]
  simp [S]
theorem ends_eq (d e : Str) : Txt.endswith d e = decide (d.cps.toList.drop (d.cps.toList.length - e.cps.toList.length) = e.cps.toList) := by
  unfold Txt.endswith
  rw [StrLaws.subAt_eq, Bool.eq_iff_iff, Bool.and_eq_true, decide_eq_true_eq, decide_eq_true_eq, beq_iff_eq]
  have h1 : d.cps.toList.length = d.length := rfl
  have h2 : e.cps.toList.length = e.length := rfl
  rw [h1, h2]
  constructor
  · rintro ⟨h3, h4⟩
    rw [List.take_of_length_le (by rw [List.length_drop, h1]; omega)] at h4
    exact h4
  · intro h
    have h5 := congrArg List.length h
    rw [List.length_drop, h1, h2] at h5
    refine ⟨by omega, ?_⟩
    rw [List.take_of_length_le (by rw [List.length_drop, h1]; omega)]
    exact h
section
variable {x e d : Str} {l : List (Str × Tok)}
theorem dec_end1 (hx : (x.length : Int) ≠ 0) (hm : l.map (fun p => p.1) = Txt.lines x) (ht : d.cps.toList ++ outL e.cps.toList [] = outL e.cps.toList l)
    (h1 : (occurrences (Str.ofString "\r\n") (Txt.item x (-1)) 0 (Str.ofString "\r\n").length 1).isEmpty = true) (h2 : Txt.endswith d e = true) (he : 0 < e.length) : Txt.slice d none (some (-(e.length : Int))) = decS x e := by
  have hd : d.cps.toList = linesOut e.cps.toList (Txt.lines x) := by rw [← outL_lines hm, ← ht]; simp [outL]
  rw [item_last (by omega), occ_end] at h1
  have h1' : isEnd (x.cps.toList.getD (x.length - 1) 0) = false := by simpa using h1
  rw [ends_eq, decide_eq_true_eq] at h2
  have h5 := congrArg List.length h2
  rw [List.length_drop, clen, clen] at h5
  rw [slice_nneg (by omega) (by omega)]
  unfold decS
  rw [if_neg (by omega), h1', if_neg (by decide), ← hd]
  unfold chop
  rw [if_pos h2, clen, clen]
  congr 2
  omega
theorem dec_end2 (hx : (x.length : Int) ≠ 0) (hm : l.map (fun p => p.1) = Txt.lines x) (ht : d.cps.toList ++ outL e.cps.toList [] = outL e.cps.toList l)
    (h1 : (occurrences (Str.ofString "\r\n") (Txt.item x (-1)) 0 (Str.ofString "\r\n").length 1).isEmpty = true) (h2 : Txt.endswith d e = false) : d = decS x e := by
  have hd : d.cps.toList = linesOut e.cps.toList (Txt.lines x) := by rw [← outL_lines hm, ← ht]; simp [outL]
  rw [item_last (by omega), occ_end] at h1
  have h1' : isEnd (x.cps.toList.getD (x.length - 1) 0) = false := by simpa using h1
  rw [ends_eq, decide_eq_false_iff_not] at h2
  unfold decS
  rw [if_neg (by omega), h1', if_neg (by decide), ← hd]
  unfold chop
  rw [if_neg h2]
  rfl
theorem dec_end3 (hx : (x.length : Int) ≠ 0) (hm : l.map (fun p => p.1) = Txt.lines x) (ht : d.cps.toList ++ outL e.cps.toList [] = outL e.cps.toList l)
    (h1 : (occurrences (Str.ofString "\r\n") (Txt.item x (-1)) 0 (Str.ofString "\r\n").length 1).isEmpty = false) : d = decS x e := by
  have hd : d.cps.toList = linesOut e.cps.toList (Txt.lines x) := by rw [← outL_lines hm, ← ht]; simp [outL]
  rw [item_last (by omega), occ_end] at h1
  have h1' : isEnd (x.cps.toList.getD (x.length - 1) 0) = true := by simpa using h1
  unfold decS
  rw [if_neg (by omega), h1', if_pos rfl, ← hd]
  rfl
theorem dec_end0 (hx : (x.length : Int) = 0) : x = decS x e := by
  unfold decS
  rw [if_pos (by omega)]
end
end Mine
end M2
section C2
open PySem PySem.W PyProof.Rows
set_option Elab.async false
set_option maxRecDepth 100000
set_option maxHeartbeats 8000000
set_option pp.maxSteps 1500
namespace Mine
theorem hexV_lt {a : Nat} (h : isHex a = true) : hexV a < 16 := by
  simp only [isHex, Bool.or_eq_true, Bool.and_eq_true, decide_eq_true_eq] at h
  unfold hexV
  split
  · omega
  · split <;> omega
local macro_rules | `(tactic| walk_at "call type:int") => `(tactic| refine halt ?_)
theorem u_unquote (w : World) (mean : ExcName → Option Value) (mg mb : Str → Option Value) (news : List (Addr × Obj)) (a b : Nat) (ha : isHex a = true) (hb : isHex b = true) (t : Tok) :
    Cl 1 w mean mg mb 37 news [.str (S [61, a, b]) t] (fun t => .str (S [hexV a * 16 + hexV b]) t) := by
  unfold Cl
  k_fill
  intros
  rename_i hret
  refine wpAny_call ?_
  k_dflt cell_enter
  have hl : (S [61, a, b]).length = 3 := rfl
  k_steps
  refine halted ?_
  rw [slice_ss (x := S [61, a, b]) (i := 1) (j := 3) (by decide) (by decide) (by rw [hl]; decide)]
  refine call_int16 ha hb ?_
  have h1 := hexV_lt ha
  have h2 := hexV_lt hb
  (try dsimp only)
  k_steps
  all_goals cb_end hret
end Mine
end C2
section C3
open PySem PySem.W PyProof.Rows
set_option Elab.async false
set_option maxRecDepth 100000
set_option pp.maxSteps 1500
set_option maxHeartbeats 8000000
namespace Mine
local macro_rules | `(tactic| cell_enter) => `(tactic| (refine' code_def ?k1 ?k2 ?k3 ?k4 ?k5 ?kA ?kF ?kK ?k6 ?k7 ?k8 ?k9 ?kB ?_ ?c2 ?c3 ?c4 ?c5; (case kA => exact rfl); (case kF => exact rfl); (case kK => assumption); (case k1 => k_asm); (case k2 => k_asm); (case k3 => k_asm); (case k4 => k_asm); (case k5 => k_asm); (case k6 => k_is); (case k7 => k_is); (case k8 => ktr_room); (case k9 => first | exact BindsTo.of_eq rfl | exact binds_K (by k_in) rfl (by k_is) rfl rfl rfl); (case c5 => decide); (case kB => exact locs rfl); (case c2 => exact rfl); (case c3 => exact rfl); (case c4 => exact rfl); k_whole; intro g' L' h' FG' F' N' B' X' T'; (try dsimp only); (try k_lift B'); (try k_fold)))
local macro_rules | `(tactic| walk_at "exec While Compare cons nil") => `(tactic| refine halt ?_)
local macro_rules | `(tactic| walk_at "call ref") => `(tactic| refine halt ?_)
local macro_rules | `(tactic| walk_at "execs cons") => `(tactic| (with_reducible refine gen_toks3 ?_; intro tk))
local macro_rules | `(tactic| walk_at "execs nil") => `(tactic| (with_reducible refine gen_toks3 ?_; intro tk))
theorem c_decode (w : World) (mean : ExcName → Option Value) (mg mb : Str → Option Value) (news : List (Addr × Obj)) (x e : Str) (t u : Tok) (hx : x.length ≤ 1000) (he : e.length ≤ 2) (he0 : 0 < e.length) :
    Cl 2 w mean mg mb 57 news [.str x t, .str e u] (fun t => .str (decS x e) t) := by
  unfold Cl
  k_fill
  intros
  rename_i hret
  dsimp only at hret
  refine wpAny_call ?_
  k_dflt cell_enter
  with_reducible rename Fr _ _ _ (fun y => List.lookup y _) => F0
  obtain ⟨u0, F00⟩ := fr_pack [(Str.ofString "encoded", Value.str x t), (Str.ofString "eol", Value.str e u)] F0 (List.forall_mem_cons.mpr ⟨rfl, List.forall_mem_cons.mpr ⟨rfl, List.forall_mem_nil _⟩⟩)
  clear F0
  dsimp only [kstB] at F00
  k_steps
  · rename_i l hq kq hmap hstrs hlen hlist F N
    refine lp_listS (σ := Str × Tok) (fun c => [(Str.ofString "decoded", Value.str c.1 c.2), (Str.ofString "encoded", Value.str x t), (Str.ofString "eol", Value.str e u)])
      (fun rem c => ∃ ys : List (Str × Tok), rem = strValues ys ∧ c.1.cps.toList ++ outL e.cps.toList ys = outL e.cps.toList l ∧ c.1.length + wtL ys ≤ 3000) (Str.ofString "", _) rfl (List.mem_cons_self) F N (List.forall_mem_cons.mpr ⟨rfl, List.forall_mem_cons.mpr ⟨rfl, List.forall_mem_cons.mpr ⟨rfl, List.forall_mem_nil _⟩⟩⟩) ?hj ?turn ?done
    case hj =>
      refine ⟨l, rfl, ?_, ?_⟩
      · have e0 : (Str.ofString "").cps.toList = [] := by decide +kernel
        dsimp only
        rw [e0, List.nil_append]
      · have h9 := wtL_le hmap
        have e0 : (Str.ofString "").length = 0 := by decide +kernel
        dsimp only
        omega
    case done =>
      rintro ⟨d, td⟩ u1 h tk ⟨ys, hrem, htot, hbound⟩ F1 N1
      cases ys with
      | cons y ys => cases hrem
      | nil =>
        dsimp only at htot hbound
        have hd1 : d.length ≤ 3000 := by omega
        dsimp only [kstB] at F1
        clear hlist hstrs hlen F N
        k_steps
        · exact cb_retS hret (dec_end1 (by assumption) hmap htot (by assumption) (by assumption) he0) (by assumption) (cb_drop (by assumption) fun _ hp => .tail _ hp)
        · exact cb_retS hret (dec_end2 (by assumption) hmap htot (by assumption) (by assumption)) (by assumption) (cb_drop (by assumption) fun _ hp => .tail _ hp)
        · exact cb_retS hret (dec_end3 (by assumption) hmap htot (by assumption)) (by assumption) (cb_drop (by assumption) fun _ hp => .tail _ hp)
    case turn =>
      rintro c v rest u1 h tk own hv ⟨ys, hrem, htot, hbound⟩ F1 N1
      cases ys with
      | nil => cases hrem
      | cons y ys =>
        obtain ⟨d, td⟩ := c
        obtain ⟨y, ty⟩ := y
        have e1 := (List.cons.inj hrem).1
        have e2 := (List.cons.inj hrem).2
        subst e1 e2
        have hd1 : d.length ≤ 3000 := by simp only at hbound; omega
        rw [wtL_cons] at hbound
        have hy1 : y.length ≤ 3000 := by simp only at hbound; omega
        clear hrem hv hlist hstrs hlen F N
        dsimp only [kstB] at F1
        k_steps
        · refine halted ?_
          with_reducible rename Fr _ _ _ _ => F2
          with_reducible rename News _ _ _ _ => N2
          have hB : (d.cps.toList ++ dlE e.cps.toList (Txt.rstrip y).cps.toList).length ≤ 3000 := by
            have h8 := dlE_len e.cps.toList _ (Txt.rstrip y).cps.toList (Nat.le_refl _)
            have h7 := rstrip_le y
            rw [List.length_append]
            rw [clen, clen] at h8
            rw [clen]
            omega
          refine lp_while (σ := Nat × Tok × Str × Tok) (fun c => [(Str.ofString "i", Value.int (c.1 : Int) c.2.1), (Str.ofString "decoded", Value.str c.2.2.1 c.2.2.2), (Str.ofString "line", Value.str (Txt.rstrip y) _), (Str.ofString "n", Value.int (Txt.rstrip y).length _), (Str.ofString "encoded", Value.str x t), (Str.ofString "eol", Value.str e u)])
            (fun c => c.1 ≤ (Txt.rstrip y).length ∧ c.2.2.1.cps.toList ++ tailE e.cps.toList (Txt.rstrip y).cps.toList c.1 = d.cps.toList ++ dlE e.cps.toList (Txt.rstrip y).cps.toList) (fun c => (Txt.rstrip y).length - c.1) (0, _, d, _) F2 N2
             (List.forall_mem_cons.mpr ⟨rfl, List.forall_mem_cons.mpr ⟨rfl, List.forall_mem_cons.mpr ⟨rfl, List.forall_mem_cons.mpr ⟨rfl, List.forall_mem_cons.mpr ⟨rfl, List.forall_mem_cons.mpr ⟨rfl, List.forall_mem_nil _⟩⟩⟩⟩⟩⟩) ?hp ?turn
          case hp =>
            refine ⟨Nat.zero_le _, ?_⟩
            dsimp only
            rw [tailE_in (by rw [clen]; omega), List.drop_zero]
          case turn =>
            rintro ⟨i, ti, d1, t1⟩ u2 h2 tk2 ⟨hi, hP⟩ F3 N3
            dsimp only at hP hi
            have hd2 : d1.length ≤ 3000 := by
              have := congrArg List.length hP
              rw [List.length_append] at this
              have h3 : d1.cps.toList.length = d1.length := rfl
              omega
            dsimp only [kstB] at F3
            clear F2 N2 F1 N1 hB
            k_steps
            · with_reducible rename (_ != _) = _ => hn
              with_reducible rename Fr _ _ _ _ => F9
              with_reducible rename News _ _ _ _ => N9
              exact lpPost_next F9 N9 (fun p hp => hp) ⟨(i + 1, _, _, _), ⟨⟨by dsimp only; omega, w_end (by omega) hP (w_lit (by omega) hn) (by assumption)⟩, by dsimp only; omega⟩, List.forall_mem_cons.mpr ⟨rfl, List.forall_mem_cons.mpr ⟨rfl, List.forall_mem_cons.mpr ⟨rfl, List.forall_mem_cons.mpr ⟨rfl, List.forall_mem_cons.mpr ⟨rfl, List.forall_mem_cons.mpr ⟨rfl, List.forall_mem_nil _⟩⟩⟩⟩⟩⟩⟩
            · with_reducible rename (_ != _) = _ => hn
              with_reducible rename Fr _ _ _ _ => F9
              with_reducible rename News _ _ _ _ => N9
              exact lpPost_next F9 N9 (fun p hp => hp) ⟨(i + 1, _, _, _), ⟨⟨by dsimp only; omega, w_mid (by omega) hP (w_lit (by omega) hn) (by assumption)⟩, by dsimp only; omega⟩, List.forall_mem_cons.mpr ⟨rfl, List.forall_mem_cons.mpr ⟨rfl, List.forall_mem_cons.mpr ⟨rfl, List.forall_mem_cons.mpr ⟨rfl, List.forall_mem_cons.mpr ⟨rfl, List.forall_mem_cons.mpr ⟨rfl, List.forall_mem_nil _⟩⟩⟩⟩⟩⟩⟩
            · with_reducible rename (_ != _) = _ => hn
              with_reducible rename Fr _ _ _ _ => F9
              with_reducible rename News _ _ _ _ => N9
              have hn1 : (i : Int) + 1 = ((Txt.rstrip y).length : Int) := by assumption
              refine lpPost_cont F9 N9 (fun p hp => hp) ⟨(i + 1, _, _, _), ⟨⟨by dsimp only; omega, ?_⟩, by dsimp only; omega⟩, List.forall_mem_cons.mpr ⟨rfl, List.forall_mem_cons.mpr ⟨rfl, List.forall_mem_cons.mpr ⟨rfl, List.forall_mem_cons.mpr ⟨rfl, List.forall_mem_cons.mpr ⟨rfl, List.forall_mem_cons.mpr ⟨rfl, List.forall_mem_nil _⟩⟩⟩⟩⟩⟩⟩
              dsimp only
              rw [← hP, step_lone (w_eq (by omega) hn) (by rw [clen]; omega), tailE_out (by rw [clen]; omega)]
            · with_reducible rename (_ != _) = _ => hn
              with_reducible rename Fr _ _ _ _ => F9
              with_reducible rename News _ _ _ _ => N9
              exact lpPost_next F9 N9 (fun p hp => hp) ⟨(i + 1, _, _, _), ⟨⟨by dsimp only; omega, w_end (by omega) hP (w_no1 (by omega) hn (by assumption) (by assumption)) (by assumption)⟩, by dsimp only; omega⟩, List.forall_mem_cons.mpr ⟨rfl, List.forall_mem_cons.mpr ⟨rfl, List.forall_mem_cons.mpr ⟨rfl, List.forall_mem_cons.mpr ⟨rfl, List.forall_mem_cons.mpr ⟨rfl, List.forall_mem_cons.mpr ⟨rfl, List.forall_mem_nil _⟩⟩⟩⟩⟩⟩⟩
            · with_reducible rename (_ != _) = _ => hn
              with_reducible rename Fr _ _ _ _ => F9
              with_reducible rename News _ _ _ _ => N9
              exact lpPost_next F9 N9 (fun p hp => hp) ⟨(i + 1, _, _, _), ⟨⟨by dsimp only; omega, w_mid (by omega) hP (w_no1 (by omega) hn (by assumption) (by assumption)) (by assumption)⟩, by dsimp only; omega⟩, List.forall_mem_cons.mpr ⟨rfl, List.forall_mem_cons.mpr ⟨rfl, List.forall_mem_cons.mpr ⟨rfl, List.forall_mem_cons.mpr ⟨rfl, List.forall_mem_cons.mpr ⟨rfl, List.forall_mem_cons.mpr ⟨rfl, List.forall_mem_nil _⟩⟩⟩⟩⟩⟩⟩
            · with_reducible rename (_ != _) = _ => hn
              with_reducible rename Fr _ _ _ _ => F9
              with_reducible rename News _ _ _ _ => N9
              exact lpPost_next F9 N9 (fun p hp => hp) ⟨(i + 1, _, _, _), ⟨⟨by dsimp only; omega, w_end (by omega) hP (w_no2 (by omega) hn (by assumption) (by assumption)) (by assumption)⟩, by dsimp only; omega⟩, List.forall_mem_cons.mpr ⟨rfl, List.forall_mem_cons.mpr ⟨rfl, List.forall_mem_cons.mpr ⟨rfl, List.forall_mem_cons.mpr ⟨rfl, List.forall_mem_cons.mpr ⟨rfl, List.forall_mem_cons.mpr ⟨rfl, List.forall_mem_nil _⟩⟩⟩⟩⟩⟩⟩
            · with_reducible rename (_ != _) = _ => hn
              with_reducible rename Fr _ _ _ _ => F9
              with_reducible rename News _ _ _ _ => N9
              exact lpPost_next F9 N9 (fun p hp => hp) ⟨(i + 1, _, _, _), ⟨⟨by dsimp only; omega, w_mid (by omega) hP (w_no2 (by omega) hn (by assumption) (by assumption)) (by assumption)⟩, by dsimp only; omega⟩, List.forall_mem_cons.mpr ⟨rfl, List.forall_mem_cons.mpr ⟨rfl, List.forall_mem_cons.mpr ⟨rfl, List.forall_mem_cons.mpr ⟨rfl, List.forall_mem_cons.mpr ⟨rfl, List.forall_mem_cons.mpr ⟨rfl, List.forall_mem_nil _⟩⟩⟩⟩⟩⟩⟩
            · with_reducible rename (_ != _) = _ => hn
              with_reducible rename (List.isEmpty (Builtin.Str.occurrences _ (Txt.item _ (_ + 1)) _ _ _)) = _ => ha1
              with_reducible rename (List.isEmpty (Builtin.Str.occurrences _ (Txt.item _ (_ + 2)) _ _ _)) = _ => hb1
              obtain ⟨a, b, ha, hb, hs, ht⟩ := w_hex (e := e) (by omega) hn (by assumption) ha1 hb1
              refine halted ?_
              rw [hs]
              k_dflt (refine' cl_use (u_unquote w _ _ _ _ a b ha hb _) ?k1 ?k2 ?k3 ?k4 ?k5 ?kK ?kd ?ku ?_; (case k1 => k_asm); (case k2 => k_asm); (case k3 => k_asm); (case k4 => k_asm); (case k5 => k_asm); (case kK => exact rfl); (case kd => ktr_room); (case ku => ktr_units))
              intro t9 h9 tk9 F9 N9
              (try dsimp only)
              have hl1 : (S [hexV a * 16 + hexV b]).length = 1 := rfl
              k_steps
              · with_reducible rename Fr _ _ _ _ => F9
                with_reducible rename News _ _ _ _ => N9
                exact lpPost_next F9 N9 (fun p hp => hp) ⟨(i + 3, _, _, _), ⟨⟨by dsimp only; omega, w_hexEnd hP ht (by assumption)⟩, by dsimp only; omega⟩, List.forall_mem_cons.mpr ⟨rfl, List.forall_mem_cons.mpr ⟨rfl, List.forall_mem_cons.mpr ⟨rfl, List.forall_mem_cons.mpr ⟨rfl, List.forall_mem_cons.mpr ⟨rfl, List.forall_mem_cons.mpr ⟨rfl, List.forall_mem_nil _⟩⟩⟩⟩⟩⟩⟩
              · with_reducible rename Fr _ _ _ _ => F9
                with_reducible rename News _ _ _ _ => N9
                exact lpPost_next F9 N9 (fun p hp => hp) ⟨(i + 3, _, _, _), ⟨⟨by dsimp only; omega, w_hexMid hP ht (by assumption)⟩, by dsimp only; omega⟩, List.forall_mem_cons.mpr ⟨rfl, List.forall_mem_cons.mpr ⟨rfl, List.forall_mem_cons.mpr ⟨rfl, List.forall_mem_cons.mpr ⟨rfl, List.forall_mem_cons.mpr ⟨rfl, List.forall_mem_cons.mpr ⟨rfl, List.forall_mem_nil _⟩⟩⟩⟩⟩⟩⟩
            · with_reducible rename (_ != _) = _ => hn
              with_reducible rename Fr _ _ _ _ => F9
              with_reducible rename News _ _ _ _ => N9
              exact lpPost_next F9 N9 (fun p hp => hp) ⟨(i + 1, _, _, _), ⟨⟨by dsimp only; omega, w_end (by omega) hP (w_no3 (by omega) hn (by assumption) (by assumption)) (by assumption)⟩, by dsimp only; omega⟩, List.forall_mem_cons.mpr ⟨rfl, List.forall_mem_cons.mpr ⟨rfl, List.forall_mem_cons.mpr ⟨rfl, List.forall_mem_cons.mpr ⟨rfl, List.forall_mem_cons.mpr ⟨rfl, List.forall_mem_cons.mpr ⟨rfl, List.forall_mem_nil _⟩⟩⟩⟩⟩⟩⟩
            · with_reducible rename (_ != _) = _ => hn
              with_reducible rename Fr _ _ _ _ => F9
              with_reducible rename News _ _ _ _ => N9
              exact lpPost_next F9 N9 (fun p hp => hp) ⟨(i + 1, _, _, _), ⟨⟨by dsimp only; omega, w_mid (by omega) hP (w_no3 (by omega) hn (by assumption) (by assumption)) (by assumption)⟩, by dsimp only; omega⟩, List.forall_mem_cons.mpr ⟨rfl, List.forall_mem_cons.mpr ⟨rfl, List.forall_mem_cons.mpr ⟨rfl, List.forall_mem_cons.mpr ⟨rfl, List.forall_mem_cons.mpr ⟨rfl, List.forall_mem_cons.mpr ⟨rfl, List.forall_mem_nil _⟩⟩⟩⟩⟩⟩⟩
            · refine lpPost_next F3 N3 (fun p hp => hp) ⟨(d1, _), ⟨ys, rfl, ?_, ?_⟩, List.forall_mem_cons.mpr ⟨rfl, List.forall_mem_cons.mpr ⟨rfl, List.forall_mem_cons.mpr ⟨rfl, List.forall_mem_nil _⟩⟩⟩⟩
              · dsimp only
                rw [tailE_out (by rw [clen]; omega), List.append_nil] at hP
                rw [hP, List.append_assoc, ← outL_cons (t := ty), htot]
              · rw [tailE_out (by rw [clen]; omega), List.append_nil] at hP
                have h6 := congrArg List.length hP
                have h8 := dlE_len e.cps.toList _ (Txt.rstrip y).cps.toList (Nat.le_refl _)
                rw [List.length_append] at h6
                rw [clen, clen] at h8
                rw [clen, clen] at h6
                dsimp only
                omega
        · refine lpPost_cont (by assumption) (by assumption) (fun p hp => hp) ⟨(_, _), ⟨ys, rfl, ?_, ?_⟩, List.forall_mem_cons.mpr ⟨rfl, List.forall_mem_cons.mpr ⟨rfl, List.forall_mem_cons.mpr ⟨rfl, List.forall_mem_nil _⟩⟩⟩⟩
          · have h0 : (Txt.rstrip y).cps.toList = [] := List.eq_nil_of_length_eq_zero (by rw [clen]; omega)
            dsimp only
            rw [cat_list, List.append_assoc, ← htot, outL_cons, h0]
            simp [dlE]
          · have h0 : (d ++ e).length ≤ d.length + e.length := by omega
            dsimp only
            omega
  · exact cb_retS hret (dec_end0 (by assumption)) (by assumption) (by assumption)
end Mine
end C3
section M3
open PySem PySem.W PyProof.Rows PySem.Calls PyProof.V PySem.Spec PySem.Builtin PySem.Builtin.Str
set_option Elab.async false
namespace Mine
/-- what parse257 reads behind the mark -/
def pr : List Nat → List Nat
  | [] => []
  | [c] => if c = 34 then [] else [c]
  | c :: d :: r => if c = 34 then (if d = 34 then 34 :: pr r else []) else c :: pr (d :: r)
def parS (x : Str) : Str := if (x.cps.toList.drop 3).take 2 = [32, 34] then S (pr (x.cps.toList.drop 5)) else S []
theorem pr_lit {c : Nat} {r : List Nat} (h : c ≠ 34) : pr (c :: r) = c :: pr r := by
  cases r with
  | nil => simp [pr, h]
  | cons d r => simp [pr, h]
section
variable {x d : Str} {i : Nat} {T : List Nat}
theorem beq34 {x : Str} {i : Nat} (h : i < x.length) {b : Bool} (hn : (Txt.item x (i : Int) == Str.ofString "\"") = b) : (x.cps.toList.getD i 0 == 34) = b := by
  rw [item_nat h] at hn
  have e : Str.ofString "\"" = S [34] := by decide +kernel
  rw [e, beq_one] at hn
  exact hn
theorem p_lit (h : i < x.length) (hP : d.cps.toList ++ pr (x.cps.toList.drop i) = T) (hn : (Txt.item x (i : Int) == Str.ofString "\"") = false) :
    (d ++ Txt.item x (i : Int)).cps.toList ++ pr (x.cps.toList.drop (i + 1)) = T := by
  have hc : x.cps.toList.getD i 0 ≠ 34 := by simpa using beq34 h hn
  rw [drop_cons (by rw [clen]; omega), pr_lit hc] at hP
  rw [← hP, cat_list, item_nat h]
  simp [S]
theorem p_two (h : i + 1 < x.length) (hP : d.cps.toList ++ pr (x.cps.toList.drop i) = T) (hn : (Txt.item x (i : Int) == Str.ofString "\"") = true) (hm : (Txt.item x ((i + 1 : Nat) : Int) == Str.ofString "\"") = true) :
    (d ++ Txt.item x (i : Int)).cps.toList ++ pr (x.cps.toList.drop (i + 2)) = T := by
  have hc : x.cps.toList.getD i 0 = 34 := by simpa using beq34 (by omega) hn
  have hc2 : x.cps.toList.getD (i + 1) 0 = 34 := by simpa using beq34 (by omega) hm
  rw [drop_cons (by rw [clen]; omega), drop_cons (i := i + 1) (by rw [clen]; omega), hc, hc2] at hP
  rw [← hP, cat_list, item_nat (by omega), hc]
  simp [S, pr]
theorem p_brk1 (h : i < x.length) (hP : d.cps.toList ++ pr (x.cps.toList.drop i) = T) (hn : (Txt.item x (i : Int) == Str.ofString "\"") = true) (hm : (i : Int) + 1 ≥ (x.length : Int)) : d = S T := by
  have hc : x.cps.toList.getD i 0 = 34 := by simpa using beq34 h hn
  rw [drop_cons (by rw [clen]; omega), hc, List.drop_of_length_le (by rw [clen]; omega)] at hP
  rw [← hP]
  simp [pr, S]
theorem p_brk2 (h : i + 1 < x.length) (hP : d.cps.toList ++ pr (x.cps.toList.drop i) = T) (hn : (Txt.item x (i : Int) == Str.ofString "\"") = true) (hm : (Txt.item x ((i + 1 : Nat) : Int) == Str.ofString "\"") = false) : d = S T := by
  have hc : x.cps.toList.getD i 0 = 34 := by simpa using beq34 (by omega) hn
  have hc2 : x.cps.toList.getD (i + 1) 0 ≠ 34 := by simpa using beq34 (by omega) hm
  rw [drop_cons (by rw [clen]; omega), drop_cons (i := i + 1) (by rw [clen]; omega), hc] at hP
  rw [← hP]
  simp only [pr, if_true, if_neg hc2, List.append_nil]
  rfl
theorem p_done (h : ¬ (i : Int) < (x.length : Int)) (hP : d.cps.toList ++ pr (x.cps.toList.drop i) = T) : d = S T := by
  rw [List.drop_of_length_le (by rw [clen]; omega)] at hP
  rw [← hP]
  simp [pr, S]
end
end Mine
namespace Mine
theorem o257 : Str.ofString "257" = S [50, 53, 55] := by decide +kernel
theorem oq : Str.ofString " \"" = S [32, 34] := by decide +kernel
theorem o0 : Str.ofString "" = S [] := by decide +kernel
theorem S_inj {a b : List Nat} (h : S a = S b) : a = b := by
  injection h with h
  simpa using h
theorem pre_ne {x : Str} (h3 : 3 ≤ x.length) {b : Bool} (h : (Txt.slice x none (some 3) != Str.ofString "257") = b) : decide (x.cps.toList.take 3 ≠ [50, 53, 55]) = b := by
  rw [slice_ns (by decide) (by omega), o257] at h
  rw [← h, Bool.eq_iff_iff, decide_eq_true_eq, bne_iff_ne]
  constructor
  · intro h1 h2; exact h1 (S_inj h2)
  · intro h1 h2; exact h1 (congrArg S h2)
theorem open_ne {x : Str} (h5 : 5 ≤ x.length) {b : Bool} (h : (Txt.slice x (some 3) (some 5) != Str.ofString " \"") = b) : decide ((x.cps.toList.drop 3).take 2 ≠ [32, 34]) = b := by
  rw [slice_ss (by decide) (by decide) (by omega), oq] at h
  rw [← h, Bool.eq_iff_iff, decide_eq_true_eq, bne_iff_ne]
  constructor
  · intro h1 h2; exact h1 (S_inj h2)
  · intro h1 h2; exact h1 (congrArg S h2)
theorem par_shut {x : Str} (h5 : 5 ≤ x.length) (h : (Txt.slice x (some 3) (some 5) != Str.ofString " \"") = true) : Str.ofString "" = parS x := by
  have := of_decide_eq_true (open_ne h5 h)
  unfold parS
  rw [if_neg this, o0]
theorem par_open {x : Str} (h5 : 5 ≤ x.length) (h : (Txt.slice x (some 3) (some 5) != Str.ofString " \"") = false) : parS x = S (pr (x.cps.toList.drop 5)) := by
  have := of_decide_eq_false (open_ne h5 h)
  unfold parS
  rw [if_pos (Decidable.not_not.mp this)]
end Mine
namespace Mine
theorem p_two2 {x d : Str} {i : Nat} {T : List Nat} (h : i + 1 < x.length) (hP : d.cps.toList ++ pr (x.cps.toList.drop i) = T) (hn : (Txt.item x (i : Int) == Str.ofString "\"") = true) (hm : (Txt.item x ((i : Int) + 1) != Str.ofString "\"") = false) :
    (d ++ Txt.item x (i : Int)).cps.toList ++ pr (x.cps.toList.drop (i + 2)) = T := p_two h hP hn (by simpa using hm)
theorem p_brk3 {x d : Str} {i : Nat} {T : List Nat} (h : i + 1 < x.length) (hP : d.cps.toList ++ pr (x.cps.toList.drop i) = T) (hn : (Txt.item x (i : Int) == Str.ofString "\"") = true) (hm : (Txt.item x ((i : Int) + 1) != Str.ofString "\"") = true) : d = S T := p_brk2 h hP hn (by simpa using hm)
end Mine
namespace Mine
theorem pre_ne2 {x : Str} (h3 : 3 ≤ x.length) (h : x.cps.toList.take 3 ≠ [50, 53, 55]) : (Txt.slice x none (some 3) != Str.ofString "257") = true := by
  rw [slice_ns (by decide) (by omega), o257, bne_iff_ne]
  intro h1
  exact h (S_inj h1)
end Mine
end M3
section C4
open PySem PySem.W PyProof.Rows
set_option Elab.async false
set_option maxRecDepth 100000
set_option pp.maxSteps 1500
set_option maxHeartbeats 8000000
namespace Mine
local macro_rules | `(tactic| walk_at "exec While Compare cons nil") => `(tactic| refine halt ?_)
local macro_rules | `(tactic| walk_at "call ref") => `(tactic| refine halt ?_)
local macro_rules | `(tactic| walk_at "execs cons") => `(tactic| (with_reducible refine gen_toks3 ?_; intro tk))
local macro_rules | `(tactic| walk_at "execs nil") => `(tactic| (with_reducible refine gen_toks3 ?_; intro tk))
theorem c_parse (w : World) (mean : ExcName → Option Value) (mg mb : Str → Option Value) (news : List (Addr × Obj)) (x : Str) (t : Tok) (hx : x.length ≤ 1000) (hx5 : 5 ≤ x.length) (hp : x.cps.toList.take 3 = [50, 53, 55]) :
    Cl 1 w mean mg mb 89 news [.str x t] (fun t => .str (parS x) t) := by
  unfold Cl
  k_fill
  intros
  rename_i hret
  dsimp only at hret
  refine wpAny_call ?_
  k_dflt cell_enter
  with_reducible rename Fr _ _ _ (fun y => List.lookup y _) => F0
  obtain ⟨u0, F00⟩ := fr_pack [(Str.ofString "resp", Value.str x t)] F0 (List.forall_mem_cons.mpr ⟨rfl, List.forall_mem_nil _⟩)
  clear F0
  dsimp only [kstB] at F00
  k_steps
  · with_reducible rename (_ != _) = true => hne
    exact absurd hp (of_decide_eq_true (pre_ne (by omega) hne))
  · exact cb_retS hret (par_shut hx5 (by assumption)) (by assumption) (by assumption)
  · refine halted ?_
    with_reducible rename Fr _ _ _ _ => F2
    with_reducible rename News _ _ _ _ => N2
    have hS := par_open hx5 (by assumption)
    refine lp_while (σ := Nat × Tok × Str × Tok) (fun c => [(Str.ofString "i", Value.int (c.1 : Int) c.2.1), (Str.ofString "dirname", Value.str c.2.2.1 c.2.2.2), (Str.ofString "n", Value.int x.length _), (Str.ofString "resp", Value.str x t)])
      (fun c => c.1 ≤ x.length ∧ c.2.2.1.length ≤ c.1 ∧ c.2.2.1.cps.toList ++ pr (x.cps.toList.drop c.1) = pr (x.cps.toList.drop 5)) (fun c => x.length - c.1) (5, _, Str.ofString "", _) F2 N2 (List.forall_mem_cons.mpr ⟨rfl, List.forall_mem_cons.mpr ⟨rfl, List.forall_mem_cons.mpr ⟨rfl, List.forall_mem_cons.mpr ⟨rfl, List.forall_mem_nil _⟩⟩⟩⟩) ?hp ?turn
    case hp =>
      have e0 : (Str.ofString "").length = 0 := by decide +kernel
      refine ⟨hx5, by dsimp only; omega, ?_⟩
      dsimp only
      rw [o0]
      rfl
    case turn =>
      rintro ⟨i, ti, d1, t1⟩ u2 h2 tk2 ⟨hi, hd, hP⟩ F3 N3
      dsimp only at hP hi hd
      dsimp only [kstB] at F3
      clear F2 N2
      k_steps
      · dsimp only [LpPost]
        k_steps
        exact cb_retS hret ((p_brk1 (by omega) hP (by assumption) (by omega)).trans hS.symm) (by assumption) (by assumption)
      · dsimp only [LpPost]
        k_steps
        exact cb_retS hret ((p_brk3 (by omega) hP (by assumption) (by assumption)).trans hS.symm) (by assumption) (by assumption)
      · with_reducible rename Fr _ _ _ _ => F9
        with_reducible rename News _ _ _ _ => N9
        exact lpPost_next F9 N9 (fun p hp => hp) ⟨(i + 2, _, _, _), ⟨⟨by dsimp only; omega, by dsimp only; omega, p_two2 (by omega) hP (by assumption) (by assumption)⟩, by dsimp only; omega⟩, List.forall_mem_cons.mpr ⟨rfl, List.forall_mem_cons.mpr ⟨rfl, List.forall_mem_cons.mpr ⟨rfl, List.forall_mem_cons.mpr ⟨rfl, List.forall_mem_nil _⟩⟩⟩⟩⟩
      · with_reducible rename Fr _ _ _ _ => F9
        with_reducible rename News _ _ _ _ => N9
        exact lpPost_next F9 N9 (fun p hp => hp) ⟨(i + 1, _, _, _), ⟨⟨by dsimp only; omega, by dsimp only; omega, p_lit (by omega) hP (by assumption)⟩, by dsimp only; omega⟩, List.forall_mem_cons.mpr ⟨rfl, List.forall_mem_cons.mpr ⟨rfl, List.forall_mem_cons.mpr ⟨rfl, List.forall_mem_cons.mpr ⟨rfl, List.forall_mem_nil _⟩⟩⟩⟩⟩
      · exact cb_retS hret ((p_done (by assumption) hP).trans hS.symm) (by assumption) (by assumption)
end Mine
end C4
section C5
open PySem PySem.W PyProof.Rows
set_option Elab.async false
set_option maxRecDepth 100000
set_option pp.maxSteps 1500
set_option maxHeartbeats 8000000
namespace Mine
section
local macro_rules | `(tactic| cell_enter) => `(tactic| (refine' code_def ?k1 ?k2 ?k3 ?k4 ?k5 ?kA ?kF ?kK ?k6 ?k7 ?k8 ?k9 ?kB ?_ ?c2 ?c3 ?c4 ?c5; (case kA => exact rfl); (case kF => exact rfl); (case kK => first | exact rfl | assumption); (case k1 => k_asm); (case k2 => k_asm); (case k3 => k_asm); (case k4 => k_asm); (case k5 => k_asm); (case k6 => k_is); (case k7 => k_is); (case k8 => ktr_room); (case k9 => first | exact BindsTo.of_eq rfl | exact binds_K (by k_in) rfl (by k_is) rfl rfl rfl); (case c5 => decide); (case kB => exact locs rfl); (case c2 => exact rfl); (case c3 => exact rfl); (case c4 => exact rfl); k_whole; intro g' L' h' FG' F' N' B' X' T'; (try dsimp only); (try k_lift B'); (try k_fold)))
local macro_rules | `(tactic| walk_at "exec While Compare cons nil") => `(tactic| refine halt ?_)
local macro_rules | `(tactic| walk_at "call ref") => `(tactic| refine halt ?_)
local macro_rules | `(tactic| walk_at "execs cons") => `(tactic| (with_reducible refine gen_toks3 ?_; intro tk))
local macro_rules | `(tactic| walk_at "execs nil") => `(tactic| (with_reducible refine gen_toks3 ?_; intro tk))
theorem c_told (w : World) (mean : ExcName → Option Value) (mg mb : Str → Option Value) (news : List (Addr × Obj)) (x : Str) (t : Tok) (hx : x.length ≤ 1000) (hx5 : 5 ≤ x.length) (hp : x.cps.toList.take 3 = [50, 53, 55]) :
    Cl 2 w mean mg mb 124 news [.str x t] (fun t => .str (parS x) t) := by
  unfold Cl
  k_fill
  intros
  rename_i hret
  dsimp only at hret
  refine wpAny_call ?_
  k_dflt cell_enter
  with_reducible rename Fr _ _ _ (fun y => List.lookup y _) => F0
  obtain ⟨u0, F00⟩ := fr_pack [(Str.ofString "reply", Value.str x t)] F0 (List.forall_mem_cons.mpr ⟨rfl, List.forall_mem_nil _⟩)
  clear F0
  dsimp only [kstB] at F00
  k_steps
  refine halted ?_
  k_dflt (refine' cl_use (c_parse w _ _ _ _ x t hx hx5 hp) ?k1 ?k2 ?k3 ?k4 ?k5 ?kK ?kd ?ku ?_; (case k1 => k_asm); (case k2 => k_asm); (case k3 => k_asm); (case k4 => k_asm); (case k5 => k_asm); (case kK => exact rfl); (case kd => ktr_room); (case ku => ktr_units))
  intro t9 h9 tk9 F9 N9
  (try dsimp only)
  k_steps
  all_goals exact cb_retS hret rfl (by assumption) (by assumption)
theorem c_told0 (w : World) (mean : ExcName → Option Value) (mg mb : Str → Option Value) (news : List (Addr × Obj)) (x : Str) (t : Tok) (hx : x.length ≤ 1000) (hx5 : 5 ≤ x.length) (hp : x.cps.toList.take 3 ≠ [50, 53, 55]) :
    Cl0 2 w mean mg mb 124 news [.str x t] (fun t => .int 0 t) := by
  unfold Cl0
  k_fill
  intros
  rename_i hret
  dsimp only at hret
  have hne : (Txt.slice x none (some 3) != Str.ofString "257") = true := pre_ne2 (by omega) hp
  refine wpAny_call ?_
  k_dflt (refine' code_defS0 ?k1 ?k2 ?k3 ?k4 ?k5 ?kA ?k6 ?k7 ?k8 ?k9 ?kB ?_ ?cK ?c2 ?c3 ?c4 ?c5; (case kA => exact rfl); (case k2 => k_asm); (case k1 => k_asm); (case k3 => k_asm); (case k4 => k_asm); (case k5 => k_asm); (case k6 => k_is); (case k7 => k_is); (case k8 => ktr_room); (case k9 => first | exact binds_K (by k_in) rfl (by k_is) rfl rfl rfl | exact BindsTo.of_eq rfl); (case kB => exact locs rfl); (case cK => assumption); (case c2 => exact rfl); (case c3 => exact rfl); (case c4 => exact rfl); (case c5 => decide); k_whole; intro g' L' h' FG' F' N' B' X' T' D'; (try dsimp only); (try k_lift B'); (try k_fold))
  with_reducible rename Fr _ _ _ (fun y => List.lookup y _) => F0
  obtain ⟨u0, F00⟩ := fr_pack [(Str.ofString "reply", Value.str x t)] F0 (List.forall_mem_cons.mpr ⟨rfl, List.forall_mem_nil _⟩)
  clear F0
  dsimp only [kstB] at F00
  k_steps
  refine halted ?_
  refine wpAny_call ?_
  k_dflt cell_enter
  k_steps
  all_goals exact cb_retI hret rfl (by assumption) (by assumption)
end
end Mine
end C5
section M4
open PySem PySem.W PyProof.Rows PySem.Calls PyProof.V PySem.Spec PySem.Builtin PySem.Builtin.Str
set_option Elab.async false
namespace Mine
def qL (c : Nat) (b : Bool) : List Nat := if c = 34 then [61, 50, 50] else if c = 61 then (if b then [61, 51, 100] else [61, 51, 68]) else (if b then [61, 98, 55] else [61, 66, 55])
/-- buried n deep -/
def burL (b : Bool) : Nat → List Nat → List Nat
  | 0, l => l
  | _ + 1, [] => []
  | n + 1, c :: r => burL b n (qL c b ++ r)
def Cod (c : Nat) : Prop := c = 34 ∨ c = 61 ∨ c = 183
theorem lower_q {c : Nat} (hc : Cod c) : Txt.lower (S (qL c false)) = S (qL c true) := by
  rcases hc with rfl | rfl | rfl <;> decide +kernel
theorem qL_len (c : Nat) (b : Bool) : (qL c b).length = 3 := by
  unfold qL
  split
  · rfl
  · split <;> (split <;> rfl)
theorem qL_head (c : Nat) (b : Bool) : ∃ r, qL c b = 61 :: r := by
  unfold qL
  split
  · exact ⟨_, rfl⟩
  · split <;> (split <;> exact ⟨_, rfl⟩)
theorem bur_step {b : Bool} {x : Str} {n : Nat} {T : List Nat} {y : Str} (h0 : 0 < x.length) (hT : burL b (n + 1) x.cps.toList = T) (hy : y = S (qL (x.cps.toList.getD 0 0) b)) :
    burL b n (y ++ Txt.slice x (some 1) none).cps.toList = T := by
  rw [← hT, cat_list, slice_sn (by decide) (by omega), hy]
  have e := drop_cons (l := x.cps.toList) (i := 0) (by rw [clen]; omega)
  rw [List.drop_zero] at e
  conv => rhs; rw [e]
  simp only [burL]
  rfl
end Mine
namespace Mine
theorem o_head {y r : Str} {c : Nat} {b : Bool} (hy : y = S (qL c b)) : 0 < (y ++ r).length ∧ Cod ((y ++ r).cps.toList.getD 0 0) := by
  obtain ⟨q, hq⟩ := qL_head c b
  subst hy
  have e : (S (qL c b) ++ r).cps.toList = 61 :: (q ++ r.cps.toList) := by
    rw [cat_list, hq]
    rfl
  refine ⟨?_, ?_⟩
  · rw [← clen, e]; simp
  · rw [e]; exact .inr (.inl rfl)
end Mine
end M4
section C6
open PySem PySem.W PyProof.Rows
set_option Elab.async false
set_option maxRecDepth 100000
set_option pp.maxSteps 1500
set_option maxHeartbeats 8000000
namespace Mine
theorem c_quote (w : World) (mean : ExcName → Option Value) (mg mb : Str → Option Value) (news : List (Addr × Obj)) (c : Nat) (hc : Cod c) (t : Tok) :
    Cl 1 w mean mg mb 44 news [.str (S [c]) t] (fun t => .str (S (qL c false)) t) := by
  unfold Cl
  k_fill
  rcases hc with rfl | rfl | rfl
  all_goals (
    intros
    rename_i hret
    dsimp only at hret
    refine wpAny_call ?_
    k_dflt cell_enter
    k_steps
    cb_end hret)
section
local macro_rules | `(tactic| cell_enter) => `(tactic| (refine' code_def ?k1 ?k2 ?k3 ?k4 ?k5 ?kA ?kF ?kK ?k6 ?k7 ?k8 ?k9 ?kB ?_ ?c2 ?c3 ?c4 ?c5; (case kA => exact rfl); (case kF => exact rfl); (case kK => first | exact rfl | assumption); (case k1 => k_asm); (case k2 => k_asm); (case k3 => k_asm); (case k4 => k_asm); (case k5 => k_asm); (case k6 => k_is); (case k7 => k_is); (case k8 => ktr_room); (case k9 => first | exact BindsTo.of_eq rfl | exact binds_K (by k_in) rfl (by k_is) rfl rfl rfl); (case c5 => decide); (case kB => exact locs rfl); (case c2 => exact rfl); (case c3 => exact rfl); (case c4 => exact rfl); k_whole; intro g' L' h' FG' F' N' B' X' T'; (try dsimp only); (try k_lift B'); (try k_fold)))
local macro_rules | `(tactic| walk_at "pyIter ref") => `(tactic| refine halt ?_)
local macro_rules | `(tactic| walk_at "call ref") => `(tactic| refine halt ?_)
local macro_rules | `(tactic| walk_at "execs cons") => `(tactic| (with_reducible refine gen_toks3 ?_; intro tk))
local macro_rules | `(tactic| walk_at "execs nil") => `(tactic| (with_reducible refine gen_toks3 ?_; intro tk))
theorem c_buried (w : World) (mean : ExcName → Option Value) (mg mb : Str → Option Value) (news : List (Addr × Obj)) (x : Str) (n : Nat) (b : Bool) (t u : Tok) (hn : n ≤ 3) (hx : x.length ≤ 3) (h0 : 0 < x.length) (hc : Cod (x.cps.toList.getD 0 0)) :
    Cl 2 w mean mg mb 96 news [.str x t, .int (n : Int) u, .bool b] (fun t => .str (S (burL b n x.cps.toList)) t) := by
  unfold Cl
  k_fill
  intros
  rename_i hret
  dsimp only at hret
  refine wpAny_call ?_
  k_dflt cell_enter
  with_reducible rename Fr _ _ _ (fun y => List.lookup y _) => F0
  obtain ⟨u0, F00⟩ := fr_pack [(Str.ofString "text", Value.str x t), (Str.ofString "depth", Value.int (n : Int) u), (Str.ofString "small", Value.bool b)] F0 (List.forall_mem_cons.mpr ⟨rfl, List.forall_mem_cons.mpr ⟨rfl, List.forall_mem_cons.mpr ⟨rfl, List.forall_mem_nil _⟩⟩⟩)
  clear F0
  dsimp only [kstB] at F00
  k_steps
  refine halted ?_
  with_reducible rename IsRange _ _ _ _ _ _ _ _ => R2
  with_reducible rename Fr _ _ _ _ => F2
  with_reducible rename News _ _ _ _ => N2
  refine lp_range (σ := Str × Tok) (fun c => [(Str.ofString "text", Value.str c.1 c.2), (Str.ofString "small", Value.bool b)])
    (fun i c => c.1.length ≤ 3 + 3 * i ∧ 0 < c.1.length ∧ Cod (c.1.cps.toList.getD 0 0) ∧ burL b (n - i) c.1.cps.toList = burL b n x.cps.toList) (x, _) rfl R2 (small_one (by omega) (by omega) (by omega) (by omega)) F2 N2 (List.forall_mem_cons.mpr ⟨rfl, List.forall_mem_cons.mpr ⟨rfl, List.forall_mem_nil _⟩⟩) ?hp ?turn ?done
  case hp => exact ⟨by dsimp only; omega, h0, hc, rfl⟩
  case done =>
    rintro ⟨y, ty⟩ u2 h2 tk2 ⟨-, -, -, hT⟩ F3 N3
    dsimp only at hT
    rw [show n - ((n : Int) - 0).toNat = 0 by omega] at hT
    dsimp only [kstB] at F3
    clear F2 N2 R2
    k_steps
    refine cb_retS hret ?_ (by assumption) (by assumption)
    rw [← hT]
    rfl
  case turn =>
    rintro ⟨y, ty⟩ i k tk3 u2 h2 tk2 own hi hk ⟨hl, hy0, hcy, hT⟩ F3 N3
    dsimp only at hl hy0 hcy hT
    have hi3 : i < n := by omega
    have hl3 : y.length ≤ 20 := by omega
    rw [show n - i = (n - (i + 1)) + 1 by omega] at hT
    dsimp only [kstB] at F3
    clear F2 N2 R2
    k_steps
    · refine halted ?_
      rw [show (0 : Int) = ((0 : Nat) : Int) from rfl, item_nat hy0]
      k_dflt (refine' cl_use (c_quote w _ _ _ _ _ hcy _) ?k1 ?k2 ?k3 ?k4 ?k5 ?kK ?kd ?ku ?_; (case k1 => k_asm); (case k2 => k_asm); (case k3 => k_asm); (case k4 => k_asm); (case k5 => k_asm); (case kK => exact rfl); (case kd => ktr_room); (case ku => ktr_units))
      intro t9 h9 tk9 F9 N9
      (try dsimp only)
      have hq1 := qL_len (y.cps.toList.getD 0 0) false
      have hq2 : (S (qL (y.cps.toList.getD 0 0) false)).length = 3 := by rw [S_len, hq1]
      k_steps
      · have hb : b = true := by assumption
        have hy := (lower_q hcy).trans (congrArg (fun z => S (qL (y.cps.toList.getD 0 0) z)) hb.symm)
        with_reducible rename Fr _ _ _ _ => F9
        with_reducible rename News _ _ _ _ => N9
        refine lpPost_next F9 N9 (fun p hp => hp) ⟨(_, _), ⟨?_, (o_head hy).1, (o_head hy).2, bur_step hy0 hT hy⟩, List.forall_mem_cons.mpr ⟨rfl, List.forall_mem_cons.mpr ⟨rfl, List.forall_mem_nil _⟩⟩⟩
        have hl9 : (Txt.lower (S (qL (y.cps.toList.getD 0 0) false))).length = 3 := by rw [lower_q hcy, S_len, qL_len]
        dsimp only
        omega
      · have hb : b = false := by assumption
        have hy := congrArg (fun z => S (qL (y.cps.toList.getD 0 0) z)) hb.symm
        with_reducible rename Fr _ _ _ _ => F9
        with_reducible rename News _ _ _ _ => N9
        refine lpPost_next F9 N9 (fun p hp => hp) ⟨(_, _), ⟨?_, (o_head hy).1, (o_head hy).2, bur_step hy0 hT hy⟩, List.forall_mem_cons.mpr ⟨rfl, List.forall_mem_cons.mpr ⟨rfl, List.forall_mem_nil _⟩⟩⟩
        have hl9 : (S (qL (y.cps.toList.getD 0 0) false)).length = 3 := hq2
        dsimp only
        omega
end
end Mine
end C6
section M5
open PySem PySem.W PyProof.Rows PySem.Calls PyProof.V PySem.Spec PySem.Builtin PySem.Builtin.Str
set_option Elab.async false
namespace Mine
def repL (l : List Nat) (n : Nat) : List Nat := (List.replicate n l).flatten
theorem fold_cat (a : Array Nat) : ∀ (n : Nat) (acc : Array Nat), ((List.replicate n a).foldl (· ++ ·) acc).toList = acc.toList ++ repL a.toList n
  | 0, acc => by simp [repL]
  | n + 1, acc => by
    rw [List.replicate_succ, List.foldl_cons, fold_cat a n, repL, repL, List.replicate_succ, List.flatten_cons]
    simp
theorem mul_rep (l : List Nat) (n : Int) : Txt.mul (S l) n = S (repL l n.toNat) := by
  have key : ∀ x : Str, x.cps.toList = repL l n.toNat → x = S (repL l n.toNat) := fun x h => by
    rw [← h]; rfl
  refine key _ ?_
  unfold Txt.mul
  split
  · next h => rw [show n.toNat = 0 by omega]; rfl
  · split
    · next h1 h2 =>
      rw [Bool.or_eq_true, beq_iff_eq, beq_iff_eq] at h2
      rcases h2 with h2 | h2
      · subst h2
        show (S l).cps.toList = repL l 1
        simp [S, repL]
      · have hl : l = [] := List.eq_nil_of_length_eq_zero (by rw [← S_len]; exact h2)
        subst hl
        show ([] : List Nat) = repL [] n.toNat
        unfold repL
        induction n.toNat with
        | zero => rfl
        | succ k ih => rw [List.replicate_succ, List.flatten_cons, ← ih]; rfl
    · show ((List.replicate n.toNat (S l).cps).foldl (· ++ ·) #[]).toList = _
      rw [fold_cat]
      simp [S]
theorem repL_len (l : List Nat) (n : Nat) : (repL l n).length = l.length * n := by
  unfold repL
  simp [Nat.mul_comm]
section
variable {prog : Program} {w : World} {A : Around} {E : Value → Shared → Prop} {s : Shared} {Q : Value → Shared → Prop} {t u : Tok}
theorem mul_two {a b : Nat} {n : Int} (h1 : n ≤ 8) (h2 : -8 ≤ n) (H : ∀ t' k, (S (repL [a, b] n.toNat)).length = 2 * n.toNat → Q (.str (S (repL [a, b] n.toNat)) t') { s with toks := k }) :
    wpAny (model prog w) A (binaryOp .Mult (.str (S [a, b]) t) (.int n u)) Q E s :=
  SB.mul (mulOk_of 2 8 (by rw [S_len]; exact Nat.le_refl _) (by omega) (by omega) (by decide) (by decide)) (fun t' k => by rw [mul_rep]; exact H t' k (by rw [S_len, repL_len]; rfl))
theorem mul_one {a : Nat} {n : Int} (h1 : n ≤ 1000) (h2 : -8 ≤ n) (H : ∀ t' k, (S (repL [a] n.toNat)).length = n.toNat → Q (.str (S (repL [a] n.toNat)) t') { s with toks := k }) :
    wpAny (model prog w) A (binaryOp .Mult (.str (S [a]) t) (.int n u)) Q E s :=
  SB.mul (mulOk_of 2 1000 (by rw [S_len]; exact Nat.le_of_ble_eq_true rfl) (by omega) (by omega) (by decide) (by decide)) (fun t' k => by rw [mul_rep]; exact H t' k (by rw [S_len, repL_len]; simp))
end
/-- the last sign of 3D, 3d -/
def lo (b : Bool) : Nat := if b = true then 100 else 68
/-- a piece, as it stands behind n turns -/
def pieL (k : Nat) (b : Bool) (n : Nat) (e : List Nat) : List Nat :=
  if 1 < k ∧ k < 6 then (if k < 3 + n then [34] else 61 :: (repL [51, lo b] (k - 3 - n) ++ [50, 50]))
  else if 5 < k ∧ k < 9 then (if k < 6 + n then [] else 61 :: (repL [51, lo b] (k - 6 - n) ++ (if 0 < n then e else [32, 10])))
  else if k = 0 then [32, 111] else if k = 1 then [61, 111, 50] else if k = 10 then [61, 50, 111]
  else if n = 0 then (if k = 9 then [61, 50, 13, 10] else if k = 11 then [32, 9, 13] else if k = 12 then [61, if b = true then 98 else 66, 55] else [111, 61, 32])
  else (if k = 9 then 61 :: 50 :: e else if k = 11 then e else if k = 12 then [183] else [111])
end Mine
namespace Mine
section
variable {k : Int} {n : Nat} {b : Bool} {e : List Nat}
theorem oEq : Str.ofString "=" = S [61] := by decide +kernel
theorem o22 : Str.ofString "22" = S [50, 50] := by decide +kernel
theorem oQ1 : Str.ofString "\"" = S [34] := by decide +kernel
theorem oBl : Str.ofString " \n" = S [32, 10] := by decide +kernel
theorem pe1a (h1 : 1 < k) (h2 : k < 6) (h3 : k < 3 + (n : Int)) : Str.ofString "\"" = S (pieL k.toNat b n e) := by
  unfold pieL
  rw [if_pos (by omega), if_pos (by omega), oQ1]
theorem pe1b (h1 : 1 < k) (h2 : k < 6) (h3 : ¬ k < 3 + (n : Int)) : Str.ofString "=" ++ S (repL [51, lo b] (k - 3 - (n : Int)).toNat) ++ Str.ofString "22" = S (pieL k.toNat b n e) := by
  unfold pieL
  rw [if_pos (by omega), if_neg (by omega), oEq, o22, S_append, S_append, show (k - 3 - (n : Int)).toNat = k.toNat - 3 - n by omega]
  rfl
theorem pe2a (h2 : ¬ k < 6) (h4 : k < 9) (h3 : k < 6 + (n : Int)) : Str.ofString "" = S (pieL k.toNat b n e) := by
  unfold pieL
  rw [if_neg (by omega), if_pos (by omega), if_pos (by omega), o0]
theorem pe2b {E : Str} (h2 : ¬ k < 6) (h4 : k < 9) (h3 : ¬ k < 6 + (n : Int)) (h5 : (n : Int) > 0) : Str.ofString "=" ++ S (repL [51, lo b] (k - 6 - (n : Int)).toNat) ++ E = S (pieL k.toNat b n E.cps.toList) := by
  unfold pieL
  rw [if_neg (by omega), if_pos (by omega), if_neg (by omega), if_pos (by omega), oEq, S_append, show (k - 6 - (n : Int)).toNat = k.toNat - 6 - n by omega]
  conv => lhs; rw [← S_cps E]
  rw [S_append]
  rfl
theorem pe2c (h2 : ¬ k < 6) (h4 : k < 9) (h3 : ¬ k < 6 + (n : Int)) (h5 : ¬ (n : Int) > 0) : Str.ofString "=" ++ S (repL [51, lo b] (k - 6 - (n : Int)).toNat) ++ Str.ofString " \n" = S (pieL k.toNat b n e) := by
  unfold pieL
  rw [if_neg (by omega), if_pos (by omega), if_neg (by omega), if_neg (by omega), oEq, oBl, S_append, S_append, show (k - 6 - (n : Int)).toNat = k.toNat - 6 - n by omega]
  rfl
end
end Mine
namespace Mine
section
variable {n : Nat} {b : Bool} {e : List Nat} {E : Str}
theorem pz0 : Str.ofString " o" = S (pieL (0 : Int).toNat b n e) := by
  rw [show Str.ofString " o" = S [32, 111] by decide +kernel]; rfl
theorem pz1 : Str.ofString "=o2" = S (pieL (1 : Int).toNat b n e) := by
  rw [show Str.ofString "=o2" = S [61, 111, 50] by decide +kernel]; rfl
theorem pz10 : Str.ofString "=2o" = S (pieL (10 : Int).toNat b n e) := by
  rw [show Str.ofString "=2o" = S [61, 50, 111] by decide +kernel]; rfl
theorem pz9 (hn : (n : Int) = 0) : Str.ofString "=2\r\n" = S (pieL (9 : Int).toNat b n e) := by
  rw [show Str.ofString "=2\r\n" = S [61, 50, 13, 10] by decide +kernel, show n = 0 by omega]; rfl
theorem pz11 (hn : (n : Int) = 0) : Str.ofString " \t\r" = S (pieL (11 : Int).toNat b n e) := by
  rw [show Str.ofString " \t\r" = S [32, 9, 13] by decide +kernel, show n = 0 by omega]; rfl
theorem pz12 (hn : (n : Int) = 0) : S [61, if b = true then 98 else 66, 55] = S (pieL (12 : Int).toNat b n e) := by
  rw [show n = 0 by omega]; rfl
theorem pz13 (hn : (n : Int) = 0) : Str.ofString "o= " = S (pieL (13 : Int).toNat b n e) := by
  rw [show Str.ofString "o= " = S [111, 61, 32] by decide +kernel, show n = 0 by omega]; rfl
theorem pn9 (hn : (n : Int) ≠ 0) : Str.ofString "=2" ++ E = S (pieL (9 : Int).toNat b n E.cps.toList) := by
  obtain ⟨m, rfl⟩ : ∃ m, n = m + 1 := ⟨n - 1, by omega⟩
  rw [show Str.ofString "=2" = S [61, 50] by decide +kernel]
  conv => lhs; rw [← S_cps E]
  rw [S_append]; rfl
theorem pn11 (hn : (n : Int) ≠ 0) : E = S (pieL (11 : Int).toNat b n E.cps.toList) := by
  obtain ⟨m, rfl⟩ : ∃ m, n = m + 1 := ⟨n - 1, by omega⟩
  rfl
theorem pn12 (hn : (n : Int) ≠ 0) {x : Str} (hx : x = S [183]) : x = S (pieL (12 : Int).toNat b n e) := by
  obtain ⟨m, rfl⟩ : ∃ m, n = m + 1 := ⟨n - 1, by omega⟩
  rw [hx]; rfl
theorem pn13 (hn : (n : Int) ≠ 0) : Str.ofString "o" = S (pieL (13 : Int).toNat b n e) := by
  obtain ⟨m, rfl⟩ : ∃ m, n = m + 1 := ⟨n - 1, by omega⟩
  rw [show Str.ofString "o" = S [111] by decide +kernel]; rfl
theorem look_eq {k : PyData} {D : List (PyData × PyData)} {x y : Str} (h1 : lookup k D = some (.str x)) (h2 : x = y) : lookup k D = some (.str y) := by rw [h1, h2]
end
end Mine
namespace Mine
theorem get_str {prog : Program} {w : World} {A : Around} {E : Value → Shared → Prop} {s : Shared} {d : Addr} {D : List (PyData × PyData)} {k : Int} {u : Tok} {x : Str} {Q : Value → Shared → Prop}
    (T : TabAt (intKind prog w) PyData.int s.heap d D) (hl : lookup (.int k) D = some (.str x)) (h : ∀ t, Q (.str x t) { s with toks := s.toks + 1 }) : wpAny (model prog w) A (getItem (.ref d) (.int k u)) Q E s :=
  getItem_tab PyProof.V.same_int (intKind_is _ _ _ _) T hl fun v hv => by
    obtain ⟨t, e⟩ := PyProof.V.Flat.str_inv hv
    subst e
    exact h t
end Mine
end M5
section C7
open PySem PySem.W PyProof.Rows
set_option Elab.async false
set_option maxRecDepth 100000
set_option pp.maxSteps 1500
set_option maxHeartbeats 8000000
namespace Mine
section
local macro_rules | `(tactic| walk_at "eval IfExp") => `(tactic| refine halt ?_)
local macro_rules | `(tactic| walk_at "binaryOp Mult str int") => `(tactic| (refine mul_two (by omega) (by omega) ?_; intro t7 k7 hl7))
local macro_rules | `(tactic| walk_at "subscriptTail") => `(tactic| refine halt ?_)
local macro_rules | `(tactic| walk_at "call ref") => `(tactic| refine halt ?_)
local macro_rules | `(tactic| walk_at "execs cons") => `(tactic| (with_reducible refine gen_toks3 ?_; intro tk))
local macro_rules | `(tactic| walk_at "execs nil") => `(tactic| (with_reducible refine gen_toks3 ?_; intro tk))
theorem c_piece (w : World) (mean : ExcName → Option Value) (mg mb : Str → Option Value) (news : List (Addr × Obj)) (k : Int) (n : Nat) (b : Bool) (e : Str) (t u v : Tok) (hk0 : 0 ≤ k) (hk : k ≤ 13) (hn : n ≤ 3) (he : e.length ≤ 2) :
    Cl 1 w mean mg mb 103 news [.int k t, .bool b, .int (n : Int) u, .str e v] (fun t => .str (S (pieL k.toNat b n e.cps.toList)) t) := by
  unfold Cl
  k_fill
  intros
  rename_i hret
  dsimp only at hret
  refine wpAny_call ?_
  k_dflt cell_enter
  with_reducible rename Fr _ _ _ (fun y => List.lookup y _) => F0
  obtain ⟨u0, F00⟩ := fr_pack [(Str.ofString "kind", Value.int k t), (Str.ofString "small", Value.bool b), (Str.ofString "times", Value.int (n : Int) u), (Str.ofString "end", Value.str e v)] F0 (List.forall_mem_cons.mpr ⟨rfl, List.forall_mem_cons.mpr ⟨rfl, List.forall_mem_cons.mpr ⟨rfl, List.forall_mem_cons.mpr ⟨rfl, List.forall_mem_nil _⟩⟩⟩⟩)
  clear F0
  dsimp only [kstB] at F00
  k_steps
  refine halted ?_
  refine cut_str (S [51, lo b]) ?_ ?_
  · with_reducible refine IfExp_ ?_
    k_steps
    · exact cutS_in (by
        have hb : b = true := by assumption
        subst hb
        decide +kernel)
    · exact cutS_in (by
        have hb : b = false := by assumption
        subst hb
        decide +kernel)
  intro tk1 tk2
  have h3 : (S [51, lo b]).length = 2 := rfl
  k_steps
  · refine halted ?_
    with_reducible refine IfExp_ ?_
    k_steps
    · exact cb_retS hret (pe1a (by assumption) (by assumption) (by assumption)) (by assumption) (by assumption)
    · exact cb_retS hret (pe1b (by assumption) (by assumption) (by assumption)) (by assumption) (by assumption)
  · refine halted ?_
    with_reducible refine IfExp_ ?_
    k_steps
    · exact cb_retS hret (pe2a (by assumption) (by assumption) (by assumption)) (by assumption) (by assumption)
    · refine halted ?_
      with_reducible refine IfExp_ ?_
      k_steps
      · exact cb_retS hret (pe2b (by assumption) (by assumption) (by assumption) (by assumption)) (by assumption) (by assumption)
      · exact cb_retS hret (pe2c (by assumption) (by assumption) (by assumption) (by assumption)) (by assumption) (by assumption)
  · refine halted ?_
    refine cut_str (S [61, if b = true then 98 else 66, 55]) ?_ ?_
    · with_reducible refine IfExp_ ?_
      k_steps
      · exact cutS_in (by
          have hb : b = true := by assumption
          subst hb
          decide +kernel)
      · exact cutS_in (by
          have hb : b = false := by assumption
          subst hb
          decide +kernel)
    intro tk3 tk4
    k_steps
    refine halted ?_
    have hn0 : (n : Int) = 0 := by assumption
    k_dflt (refine' tab_tail (knd := intKind _ _) (enc := PyData.int) ?T ?_; (case T => k_tabat))
    k_dflt (refine' get_str (x := S (pieL k.toNat b n e.cps.toList)) ?k1 ?k2 ?_; (case k1 => k_tabat))
    case k2 =>
      have hkk : k = 9 ∨ k = 10 ∨ k = 11 ∨ k = 12 ∨ k = 13 := by omega
      rcases hkk with rfl | rfl | rfl | rfl | rfl
      · exact look_eq rfl (pz9 hn0)
      · exact look_eq rfl (pz10)
      · exact look_eq rfl (pz11 hn0)
      · exact look_eq rfl (pz12 hn0)
      · exact look_eq rfl (pz13 hn0)
    intro t9
    (try dsimp only)
    k_steps
    exact cb_retS hret rfl (by assumption) (cb_drop (by assumption) fun _ hp => .tail _ hp)
  · refine halted ?_
    have hn0 : (n : Int) ≠ 0 := by assumption
    k_dflt (refine' tab_tail (knd := intKind _ _) (enc := PyData.int) ?T ?_; (case T => k_tabat))
    k_dflt (refine' get_str (x := S (pieL k.toNat b n e.cps.toList)) ?k1 ?k2 ?_; (case k1 => k_tabat))
    case k2 =>
      have hkk : k = 9 ∨ k = 10 ∨ k = 11 ∨ k = 12 ∨ k = 13 := by omega
      rcases hkk with rfl | rfl | rfl | rfl | rfl
      · exact look_eq rfl (pn9 hn0)
      · exact look_eq rfl (pz10)
      · exact look_eq rfl (pn11 hn0)
      · exact look_eq rfl (pn12 hn0 rfl)
      · exact look_eq rfl (pn13 hn0)
    intro t9
    (try dsimp only)
    k_steps
    exact cb_retS hret rfl (by assumption) (cb_drop (by assumption) fun _ hp => .tail _ hp)
  · refine halted ?_
    refine cut_str (S [61, if b = true then 98 else 66, 55]) ?_ ?_
    · with_reducible refine IfExp_ ?_
      k_steps
      · exact cutS_in (by
          have hb : b = true := by assumption
          subst hb
          decide +kernel)
      · exact cutS_in (by
          have hb : b = false := by assumption
          subst hb
          decide +kernel)
    intro tk3 tk4
    k_steps
    refine halted ?_
    have hn0 : (n : Int) = 0 := by assumption
    k_dflt (refine' tab_tail (knd := intKind _ _) (enc := PyData.int) ?T ?_; (case T => k_tabat))
    k_dflt (refine' get_str (x := S (pieL k.toNat b n e.cps.toList)) ?k1 ?k2 ?_; (case k1 => k_tabat))
    case k2 =>
      have hkk : k = 0 ∨ k = 1 := by omega
      rcases hkk with rfl | rfl
      · exact look_eq rfl (pz0)
      · exact look_eq rfl (pz1)
    intro t9
    (try dsimp only)
    k_steps
    exact cb_retS hret rfl (by assumption) (cb_drop (by assumption) fun _ hp => .tail _ hp)
  · refine halted ?_
    have hn0 : (n : Int) ≠ 0 := by assumption
    k_dflt (refine' tab_tail (knd := intKind _ _) (enc := PyData.int) ?T ?_; (case T => k_tabat))
    k_dflt (refine' get_str (x := S (pieL k.toNat b n e.cps.toList)) ?k1 ?k2 ?_; (case k1 => k_tabat))
    case k2 =>
      have hkk : k = 0 ∨ k = 1 := by omega
      rcases hkk with rfl | rfl
      · exact look_eq rfl (pz0)
      · exact look_eq rfl (pz1)
    intro t9
    (try dsimp only)
    k_steps
    exact cb_retS hret rfl (by assumption) (cb_drop (by assumption) fun _ hp => .tail _ hp)
end
end Mine
end C7
section C8
open PySem PySem.W PyProof.Rows
set_option Elab.async false
set_option maxRecDepth 100000
set_option pp.maxSteps 1500
set_option maxHeartbeats 8000000
namespace Mine
theorem c_buriedZ (w : World) (mean : ExcName → Option Value) (mg mb : Str → Option Value) (news : List (Addr × Obj)) (x : Str) (z : Int) (b : Bool) (t u : Tok) (hz : 0 ≤ z) (hn : z ≤ 3) (hx : x.length ≤ 3) (h0 : 0 < x.length) (hc : Cod (x.cps.toList.getD 0 0)) {T : List Nat} (hT : burL b z.toNat x.cps.toList = T) :
    Cl 2 w mean mg mb 96 news [.str x t, .int z u, .bool b] (fun t => .str (S T) t) := by
  obtain ⟨n, rfl⟩ := Int.eq_ofNat_of_zero_le hz
  subst hT
  exact c_buried w mean mg mb news x n b t u (by omega) hx h0 hc
theorem la1 {k : Int} {b : Bool} (h1 : 1 < k) (h2 : k < 6) : burL b (k - 2).toNat (Str.ofString "\"").cps.toList = pieL k.toNat b 0 [] := by
  rw [oQ1]
  have : k = 2 ∨ k = 3 ∨ k = 4 ∨ k = 5 := by omega
  rcases this with rfl | rfl | rfl | rfl <;> cases b <;> decide +kernel
theorem la2 {k : Int} {b : Bool} (h1 : ¬ k < 6) (h2 : k < 9) : burL b (k - 6).toNat (Str.ofString "= \n").cps.toList = pieL k.toNat b 0 [] := by
  rw [show Str.ofString "= \n" = S [61, 32, 10] by decide +kernel]
  have : k = 6 ∨ k = 7 ∨ k = 8 := by omega
  rcases this with rfl | rfl | rfl <;> cases b <;> decide +kernel
theorem la3 {b : Bool} : burL b (1 : Int).toNat (S [183]).cps.toList = pieL (12 : Int).toNat b 0 [] := by
  cases b <;> decide +kernel
section
local macro_rules | `(tactic| walk_at "call ref") => `(tactic| refine halt ?_)
local macro_rules | `(tactic| walk_at "execs cons") => `(tactic| (with_reducible refine gen_toks3 ?_; intro tk))
local macro_rules | `(tactic| walk_at "execs nil") => `(tactic| (with_reducible refine gen_toks3 ?_; intro tk))
theorem c_laid (w : World) (mean : ExcName → Option Value) (mg mb : Str → Option Value) (news : List (Addr × Obj)) (k : Int) (b : Bool) (t : Tok) (hk0 : 0 ≤ k) (hk : k ≤ 13) :
    Cl 3 w mean mg mb 110 news [.int k t, .bool b] (fun t => .str (S (pieL k.toNat b 0 [])) t) := by
  unfold Cl
  k_fill
  intros
  rename_i hret
  dsimp only at hret
  refine wpAny_call ?_
  k_dflt cell_enter
  with_reducible rename Fr _ _ _ (fun y => List.lookup y _) => F0
  obtain ⟨u0, F00⟩ := fr_pack [(Str.ofString "kind", Value.int k t), (Str.ofString "small", Value.bool b)] F0 (List.forall_mem_cons.mpr ⟨rfl, List.forall_mem_cons.mpr ⟨rfl, List.forall_mem_nil _⟩⟩)
  clear F0
  dsimp only [kstB] at F00
  k_steps
  · refine halted ?_
    k_dflt (refine' cl_use (c_buriedZ w _ _ _ _ _ (k - 2) b _ _ (by omega) (by omega) (by decide) (by decide) (.inl (by decide)) (la1 (by assumption) (by assumption))) ?k1 ?k2 ?k3 ?k4 ?k5 ?kK ?kd ?ku ?_; (case k1 => k_asm); (case k2 => k_asm); (case k3 => k_asm); (case k4 => k_asm); (case k5 => k_asm); (case kK => exact rfl); (case kd => ktr_room); (case ku => ktr_units))
    intro t9 h9 tk9 F9 N9
    (try dsimp only)
    k_steps
    exact cb_retS hret (rfl) (by assumption) (by assumption)
  · refine halted ?_
    k_dflt (refine' cl_use (c_buriedZ w _ _ _ _ _ (k - 6) b _ _ (by omega) (by omega) (by decide) (by decide) (.inr (.inl (by decide))) (la2 (by assumption) (by assumption))) ?k1 ?k2 ?k3 ?k4 ?k5 ?kK ?kd ?ku ?_; (case k1 => k_asm); (case k2 => k_asm); (case k3 => k_asm); (case k4 => k_asm); (case k5 => k_asm); (case kK => exact rfl); (case kd => ktr_room); (case ku => ktr_units))
    intro t9 h9 tk9 F9 N9
    (try dsimp only)
    k_steps
    exact cb_retS hret (rfl) (by assumption) (by assumption)
  · refine halted ?_
    have hk12 : k = 12 := by assumption
    subst hk12
    k_dflt (refine' cl_use (c_buriedZ w _ _ _ _ (S [183]) 1 b _ _ (by decide) (by decide) (by decide) (by decide) (.inr (.inr (by decide))) la3) ?k1 ?k2 ?k3 ?k4 ?k5 ?kK ?kd ?ku ?_; (case k1 => k_asm); (case k2 => k_asm); (case k3 => k_asm); (case k4 => k_asm); (case k5 => k_asm); (case kK => exact rfl); (case kd => ktr_room); (case ku => ktr_units))
    intro t9 h9 tk9 F9 N9
    (try dsimp only)
    k_steps
    exact cb_retS hret (rfl) (by assumption) (by assumption)
  · refine halted ?_
    k_dflt (refine' cl_use (c_piece w _ _ _ _ k 0 b (Str.ofString "") _ _ _ hk0 hk (by decide) (by decide)) ?k1 ?k2 ?k3 ?k4 ?k5 ?kK ?kd ?ku ?_; (case k1 => k_asm); (case k2 => k_asm); (case k3 => k_asm); (case k4 => k_asm); (case k5 => k_asm); (case kK => exact rfl); (case kd => ktr_room); (case ku => ktr_units))
    intro t9 h9 tk9 F9 N9
    (try dsimp only)
    k_steps
    exact cb_retS hret (by rw [o0]; rfl) (by assumption) (by assumption)
  · refine halted ?_
    have hk12 : k = 12 := by assumption
    subst hk12
    k_dflt (refine' cl_use (c_buriedZ w _ _ _ _ (S [183]) 1 b _ _ (by decide) (by decide) (by decide) (by decide) (.inr (.inr (by decide))) la3) ?k1 ?k2 ?k3 ?k4 ?k5 ?kK ?kd ?ku ?_; (case k1 => k_asm); (case k2 => k_asm); (case k3 => k_asm); (case k4 => k_asm); (case k5 => k_asm); (case kK => exact rfl); (case kd => ktr_room); (case ku => ktr_units))
    intro t9 h9 tk9 F9 N9
    (try dsimp only)
    k_steps
    exact cb_retS hret (rfl) (by assumption) (by assumption)
  · refine halted ?_
    k_dflt (refine' cl_use (c_piece w _ _ _ _ k 0 b (Str.ofString "") _ _ _ hk0 hk (by decide) (by decide)) ?k1 ?k2 ?k3 ?k4 ?k5 ?kK ?kd ?ku ?_; (case k1 => k_asm); (case k2 => k_asm); (case k3 => k_asm); (case k4 => k_asm); (case k5 => k_asm); (case kK => exact rfl); (case kd => ktr_room); (case ku => ktr_units))
    intro t9 h9 tk9 F9 N9
    (try dsimp only)
    k_steps
    exact cb_retS hret (by rw [o0]; rfl) (by assumption) (by assumption)
end
end Mine
end C8
section M6
open PySem PySem.W PyProof.Rows PySem.Calls PyProof.V PySem.Spec PySem.Builtin PySem.Builtin.Str
set_option Elab.async false
namespace Mine
/-- the list's items in the ledger: pairs of a kind and a size -/
inductive PcsIn (news : List (Addr × Obj)) : List Value → List (Int × Bool) → Prop
  | nil : PcsIn news [] []
  | cons {T : Addr} {k : Int} {t : Tok} {b : Bool} {nn : Nat} {vs : List Value} {qs : List (Int × Bool)} : (T, ({ cls := .type "tuple", data := .seq #[Value.int k t, Value.bool b] nn } : Obj)) ∈ news → PcsIn news vs qs → PcsIn news (.ref T :: vs) ((k, b) :: qs)
theorem PcsIn.refs {news : List (Addr × Obj)} {vs : List Value} {qs : List (Int × Bool)} (h : PcsIn news vs qs) : ∀ v ∈ vs, ∃ T, v = .ref T := by
  induction h with
  | nil => intro v hv; cases hv
  | cons _ _ ih =>
    intro v hv
    rcases List.mem_cons.mp hv with rfl | hv
    · exact ⟨_, rfl⟩
    · exact ih v hv
/-- what _law_due hands back from here on, m marks pending -/
def dueL (d n : Nat) (e : List Nat) : Nat → List (Int × Bool) → List Nat
  | m, [] => repL [34] (m / 2)
  | m, (k, b) :: r =>
    if 1 < k ∧ k < 3 + (d : Int) then dueL d n e (m + 1) r
    else if 5 < k ∧ k < 6 + (d : Int) then dueL d n e m r
    else repL [34] (m / 2) ++ (if m % 2 = 1 then [] else pieL k.toNat b n e ++ dueL d n e 0 r)
def dueS (qs : List (Int × Bool)) (o d n : Nat) (e : List Nat) : List Nat := if d < o then [] else dueL d n e 0 qs
end Mine
namespace Mine
section
variable {d n m : Nat} {e : List Nat} {k : Int} {b : Bool} {r : List (Int × Bool)} {td E : Str} {T : List Nat}
theorem pieL_len (hk : k ≤ 13) (he : e.length ≤ 2) : (pieL k.toNat b n e).length ≤ 10 := by
  have hk' : k.toNat ≤ 13 := by omega
  unfold pieL
  (repeat' split) <;> (try simp only [List.length_cons, List.length_nil, List.length_append, repL_len]) <;> omega
theorem mulQ {z : Int} : Txt.mul (Str.ofString "\"") z = S (repL [34] z.toNat) := by rw [oQ1, mul_rep]
theorem mulQ_len {z : Int} : (Txt.mul (Str.ofString "\"") z).length = z.toNat := by rw [mulQ, S_len, repL_len]; simp
theorem half (m : Nat) : ((m : Int).fdiv 2).toNat = m / 2 := by
  rw [Int.fdiv_eq_ediv_of_nonneg _ (by decide)]; omega
theorem odd (m : Nat) : (m : Int).fmod 2 = ((m % 2 : Nat) : Int) := by
  rw [Int.fmod_eq_emod_of_nonneg _ (by decide)]; omega
theorem due_mark (h1 : 1 < k) (h2 : k < 3 + (d : Int)) (hT : td.cps.toList ++ dueL d n e m ((k, b) :: r) = T) : td.cps.toList ++ dueL d n e (m + 1) r = T := by
  rw [dueL, if_pos ⟨h1, h2⟩] at hT; exact hT
theorem due_gone (h0 : ¬ (1 < k ∧ k < 3 + (d : Int))) (h1 : 5 < k) (h2 : k < 6 + (d : Int)) (hT : td.cps.toList ++ dueL d n e m ((k, b) :: r) = T) : td.cps.toList ++ dueL d n e m r = T := by
  rw [dueL, if_neg h0, if_pos ⟨h1, h2⟩] at hT; exact hT
theorem due_shut (h0 : ¬ (1 < k ∧ k < 3 + (d : Int))) (h1 : ¬ (5 < k ∧ k < 6 + (d : Int))) (h3 : (m : Int).fmod 2 = 1) (hT : td.cps.toList ++ dueL d n e m ((k, b) :: r) = T) : td ++ Txt.mul (Str.ofString "\"") ((m : Int).fdiv 2) = S T := by
  rw [odd] at h3
  rw [dueL, if_neg h0, if_neg h1, if_pos (by omega), List.append_nil] at hT
  rw [mulQ, half, ← hT]
  conv => lhs; rw [← S_cps td]
  rw [S_append]
theorem due_on (h0 : ¬ (1 < k ∧ k < 3 + (d : Int))) (h1 : ¬ (5 < k ∧ k < 6 + (d : Int))) (h3 : (m : Int).fmod 2 ≠ 1) (hT : td.cps.toList ++ dueL d n e m ((k, b) :: r) = T) :
    (td ++ Txt.mul (Str.ofString "\"") ((m : Int).fdiv 2) ++ S (pieL k.toNat b n e)).cps.toList ++ dueL d n e 0 r = T := by
  rw [odd] at h3
  rw [dueL, if_neg h0, if_neg h1, if_neg (by omega)] at hT
  rw [mulQ, half, ← hT, cat_list, cat_list]
  simp [S]
theorem due_done (hT : td.cps.toList ++ dueL d n e m [] = T) : td ++ Txt.mul (Str.ofString "\"") ((m : Int).fdiv 2) = S T := by
  rw [dueL] at hT
  rw [mulQ, half, ← hT]
  conv => lhs; rw [← S_cps td]
  rw [S_append]
end
end Mine
namespace Mine
theorem PcsIn.mono {a b : List (Addr × Obj)} {vs : List Value} {qs : List (Int × Bool)} (h : PcsIn a vs qs) (hs : ∀ p ∈ a, p ∈ b) : PcsIn b vs qs := by
  induction h with
  | nil => exact .nil
  | cons hm _ ih => exact .cons (hs _ hm) ih
theorem ne_self {x : Str} {P : Prop} (h : (x != x) = true) : P := by simp at h
end Mine
end M6
section C9
open PySem PySem.W PyProof.Rows
set_option Elab.async false
set_option maxRecDepth 100000
set_option pp.maxSteps 1500
set_option maxHeartbeats 8000000
namespace Mine
section
local macro_rules | `(tactic| walk_at "call ref") => `(tactic| refine halt ?_)
local macro_rules | `(tactic| walk_at "exec For Tuple Name cons nil") => `(tactic| refine halt ?_)
local macro_rules | `(tactic| walk_at "execs cons") => `(tactic| (with_reducible refine gen_toks3 ?_; intro tk))
local macro_rules | `(tactic| walk_at "execs nil") => `(tactic| (with_reducible refine gen_toks3 ?_; intro tk))
theorem c_due (w : World) (mean : ExcName → Option Value) (mg mb : Str → Option Value) (news : List (Addr × Obj)) (l : Addr) (vs : List Value) (nn : Nat) (qs : List (Int × Bool)) (o d n : Nat) (e : Str) (t u v x : Tok)
    (hl : (l, listOf vs.toArray nn) ∈ news) (hq : PcsIn news vs qs) (hk : ∀ q ∈ qs, 0 ≤ q.1 ∧ q.1 ≤ 13) (hlen : qs.length ≤ 20) (ho : o ≤ 3) (hd : d ≤ 3) (hn : n ≤ 3) (he : e.length ≤ 2) :
    Cl 2 w mean mg mb 117 news [.ref l, .int (o : Int) t, .int (d : Int) u, .int (n : Int) v, .str e x] (fun t => .str (S (dueS qs o d n e.cps.toList)) t) := by
  unfold Cl
  k_fill
  intros
  rename_i hret
  dsimp only at hret
  refine wpAny_call ?_
  k_dflt cell_enter
  with_reducible rename Fr _ _ _ (fun y => List.lookup y _) => F0
  obtain ⟨u0, F00⟩ := fr_pack [(Str.ofString "pieces", Value.ref l), (Str.ofString "opening", Value.int (o : Int) t), (Str.ofString "depth", Value.int (d : Int) u), (Str.ofString "times", Value.int (n : Int) v), (Str.ofString "end", Value.str e x)] F0 (List.forall_mem_cons.mpr ⟨rfl, List.forall_mem_cons.mpr ⟨rfl, List.forall_mem_cons.mpr ⟨rfl, List.forall_mem_cons.mpr ⟨rfl, List.forall_mem_cons.mpr ⟨rfl, List.forall_mem_nil _⟩⟩⟩⟩⟩)
  clear F0
  dsimp only [kstB] at F00
  k_steps
  · exact cb_retS hret (by
      have ho9 : (o : Int) > (d : Int) := by assumption
      rw [o0, dueS, if_pos (by omega)]) (by assumption) (by assumption)
  · refine halted ?_
    with_reducible rename Fr _ _ _ _ => F2
    with_reducible rename News _ _ _ _ => N2
    have ho9 : ¬ (o : Int) > (d : Int) := by assumption
    have hT : dueS qs o d n e.cps.toList = dueL d n e.cps.toList 0 qs := by rw [dueS, if_neg (by omega)]
    refine lp_forT (σ := List (Int × Bool) × Str × Tok × Nat × Tok) (fun c => [(Str.ofString "told", Value.str c.2.1 c.2.2.1), (Str.ofString "marks", Value.int (c.2.2.2.1 : Int) c.2.2.2.2), (Str.ofString "depth", Value.int (d : Int) u), (Str.ofString "times", Value.int (n : Int) v), (Str.ofString "end", Value.str e x)])
      (fun rem c => PcsIn news rem c.1 ∧ (∀ q ∈ c.1, 0 ≤ q.1 ∧ q.1 ≤ 13) ∧ c.2.1.length ≤ 20 * (20 - c.1.length) ∧ c.2.2.2.1 ≤ 20 - c.1.length ∧ c.1.length ≤ 20 ∧ c.2.1.cps.toList ++ dueL d n e.cps.toList c.2.2.2.1 c.1 = dueL d n e.cps.toList 0 qs) (qs, Str.ofString "", _, 0, _) ?hev ?hs rfl hl F2 N2 (List.forall_mem_cons.mpr ⟨rfl, List.forall_mem_cons.mpr ⟨rfl, List.forall_mem_cons.mpr ⟨rfl, List.forall_mem_cons.mpr ⟨rfl, List.forall_mem_cons.mpr ⟨rfl, List.forall_mem_nil _⟩⟩⟩⟩⟩) ?hj hq.refs ?turn ?done
    case hs => intro _; rfl
    case hev => refine ld F2 (by rfl) ⟨rfl, rfl⟩
    case hj =>
      have e0 : (Str.ofString "").length = 0 := by decide +kernel
      refine ⟨hq, hk, by dsimp only; omega, by dsimp only; omega, hlen, ?_⟩
      dsimp only
      rw [o0]
      rfl
    case done =>
      rintro ⟨q, td, tt, m, tm⟩ u2 h2 tk2 ⟨hp, hq9, hl9, hm9, hc9, hT9⟩ F3 N3
      dsimp only at hp hq9 hl9 hm9 hc9 hT9
      dsimp only [kstB] at F3
      clear F2 N2
      cases hp
      k_steps
      exact cb_retS hret ((due_done hT9).trans (congrArg S hT.symm)) (by assumption) (by assumption)
    case turn =>
      rintro ⟨q, td, tt, m, tm⟩ v1 rest u2 h2 tk2 own hv1 ⟨hp, hq9, hl9, hm9, hc9, hT9⟩ F3 N3
      dsimp only at hp hq9 hl9 hm9 hc9 hT9
      dsimp only [kstB] at F3
      clear F2 N2
      cases hp
      rename_i TT kk ttk bb nn9 qs9 hp9 hmem9
      have hkk := hq9 _ (List.mem_cons_self ..)
      have hq8 := fun q hq => hq9 q (List.mem_cons_of_mem _ hq)
      dsimp only at hkk
      simp only [List.length_cons] at hl9 hm9 hc9
      have hmul := mulQ_len (z := (m : Int).fdiv 2)
      rw [half] at hmul
      have hm8 : m / 2 ≤ 10 := by omega
      k_steps
      · with_reducible rename Fr _ _ _ _ => F9
        with_reducible rename News _ _ _ _ => N9
        exact lpPost_next F9 N9 (fun p hp => hp) ⟨(qs9, td, _, m + 1, _), ⟨by assumption, hq8, by dsimp only; omega, by dsimp only; omega, by dsimp only; omega, due_mark (by assumption) (by assumption) hT9⟩, List.forall_mem_cons.mpr ⟨rfl, List.forall_mem_cons.mpr ⟨rfl, List.forall_mem_cons.mpr ⟨rfl, List.forall_mem_cons.mpr ⟨rfl, List.forall_mem_cons.mpr ⟨rfl, List.forall_mem_nil _⟩⟩⟩⟩⟩⟩
      · with_reducible rename Fr _ _ _ _ => F9
        with_reducible rename News _ _ _ _ => N9
        exact lpPost_next F9 N9 (fun p hp => hp) ⟨(qs9, td, _, m, _), ⟨by assumption, hq8, by dsimp only; omega, by dsimp only; omega, by dsimp only; omega, due_gone (by omega) (by assumption) (by assumption) hT9⟩, List.forall_mem_cons.mpr ⟨rfl, List.forall_mem_cons.mpr ⟨rfl, List.forall_mem_cons.mpr ⟨rfl, List.forall_mem_cons.mpr ⟨rfl, List.forall_mem_cons.mpr ⟨rfl, List.forall_mem_nil _⟩⟩⟩⟩⟩⟩
      all_goals first
        | (refine halted ?_
           have hpl := pieL_len (k := kk) (b := bb) (n := n) (e := e.cps.toList) (by omega) he
           have hpl2 : (S (pieL kk.toNat bb n e.cps.toList)).length ≤ 10 := by rw [S_len]; exact hpl
           k_dflt (refine' cl_use (c_piece w _ _ _ _ kk n bb e _ _ _ (by omega) (by omega) hn he) ?k1 ?k2 ?k3 ?k4 ?k5 ?kK ?kd ?ku ?_; (case k1 => k_asm); (case k2 => k_asm); (case k3 => k_asm); (case k4 => k_asm); (case k5 => k_asm); (case kK => exact rfl); (case kd => ktr_room); (case ku => ktr_units))
           intro t9 h9 tk9 F9 N9
           (try dsimp only)
           k_steps
           with_reducible rename Fr _ _ _ _ => F9
           with_reducible rename News _ _ _ _ => N9
           exact lpPost_next F9 N9 (fun p hp => hp) ⟨(qs9, _, _, 0, _), ⟨by assumption, hq8, by dsimp only; omega, by dsimp only; omega, by dsimp only; omega, due_on (by omega) (by omega) (by assumption) hT9⟩, List.forall_mem_cons.mpr ⟨rfl, List.forall_mem_cons.mpr ⟨rfl, List.forall_mem_cons.mpr ⟨rfl, List.forall_mem_cons.mpr ⟨rfl, List.forall_mem_cons.mpr ⟨rfl, List.forall_mem_nil _⟩⟩⟩⟩⟩⟩)
        | (dsimp only [LpPost]
           k_steps
           exact cb_retS hret ((due_shut (by omega) (by omega) (by assumption) hT9).trans (congrArg S hT.symm)) (by assumption) (cb_drop (by assumption) fun _ hp => List.mem_append_left _ hp))
end
end Mine
end C9
section C10
open PySem PySem.W PyProof.Rows
set_option Elab.async false
set_option maxRecDepth 100000
set_option pp.maxSteps 1500
set_option maxHeartbeats 8000000
namespace Mine
section
local macro_rules | `(tactic| walk_at "pyIter ref") => `(tactic| refine halt ?_)
local macro_rules | `(tactic| walk_at "call ref") => `(tactic| refine halt ?_)
local macro_rules | `(tactic| walk_at "execs cons") => `(tactic| (with_reducible refine gen_toks3 ?_; intro tk))
local macro_rules | `(tactic| walk_at "execs nil") => `(tactic| (with_reducible refine gen_toks3 ?_; intro tk))
theorem c_holds (w : World) (mean : ExcName → Option Value) (mg mb : Str → Option Value) (news : List (Addr × Obj)) (l : Addr) (vs : List Value) (nn : Nat) (qs : List (Int × Bool)) (o d : Nat) (e : Str) (t u v x : Tok)
    (hl : (l, listOf vs.toArray nn) ∈ news) (hq : PcsIn news vs qs) (hk : ∀ q ∈ qs, 0 ≤ q.1 ∧ q.1 ≤ 13) (hlen : qs.length ≤ 20) (ho : o ≤ 3) (hd : d ≤ 3) (he : e.length ≤ 2) (he0 : 0 < e.length)
    (hstep : ∀ j, d ≤ j → j < 3 → decS (S (dueS qs o d j e.cps.toList)) e = S (dueS qs o d (j + 1) e.cps.toList)) (hdl : ∀ j, (dueS qs o d j e.cps.toList).length ≤ 1000) :
    Cl 3 w mean mg mb 131 news [.str (S (dueS qs o d d e.cps.toList)) t, .ref l, .int (o : Int) u, .int (d : Int) v, .str e x] (fun _ => .bool true) := by
  unfold Cl
  k_fill
  intros
  rename_i hret
  dsimp only at hret
  refine wpAny_call ?_
  k_dflt cell_enter
  with_reducible rename Fr _ _ _ (fun y => List.lookup y _) => F0
  obtain ⟨u0, F00⟩ := fr_pack [(Str.ofString "told", Value.str (S (dueS qs o d d e.cps.toList)) t), (Str.ofString "pieces", Value.ref l), (Str.ofString "opening", Value.int (o : Int) u), (Str.ofString "depth", Value.int (d : Int) v), (Str.ofString "end", Value.str e x)] F0 (List.forall_mem_cons.mpr ⟨rfl, List.forall_mem_cons.mpr ⟨rfl, List.forall_mem_cons.mpr ⟨rfl, List.forall_mem_cons.mpr ⟨rfl, List.forall_mem_cons.mpr ⟨rfl, List.forall_mem_nil _⟩⟩⟩⟩⟩)
  clear F0
  dsimp only [kstB] at F00
  k_steps
  refine halted ?_
  with_reducible rename IsRange _ _ _ _ _ _ _ _ => R2
  with_reducible rename Fr _ _ _ _ => F2
  with_reducible rename News _ _ _ _ => N2
  refine lp_range (σ := Str × Tok) (fun c => [(Str.ofString "told", Value.str c.1 c.2), (Str.ofString "pieces", Value.ref l), (Str.ofString "opening", Value.int (o : Int) u), (Str.ofString "depth", Value.int (d : Int) v), (Str.ofString "end", Value.str e x)])
    (fun i c => c.1 = S (dueS qs o d (d + (i - 1)) e.cps.toList)) (_, _) rfl R2 (small_one (by omega) (by omega) (by omega) (by omega)) F2 N2 (List.forall_mem_cons.mpr ⟨rfl, List.forall_mem_cons.mpr ⟨rfl, List.forall_mem_cons.mpr ⟨rfl, List.forall_mem_cons.mpr ⟨rfl, List.forall_mem_cons.mpr ⟨rfl, List.forall_mem_nil _⟩⟩⟩⟩⟩) ?hp ?turn ?done
  case hp => rfl
  case done =>
    rintro ⟨y, ty⟩ u2 h2 tk2 hy F3 N3
    dsimp only [kstB] at F3
    clear F2 N2 R2
    k_steps
    exact hret 0 _ _ (by assumption) (by assumption)
  case turn =>
    rintro ⟨y, ty⟩ i k tk3 u2 h2 tk2 own hi hk3 hy F3 N3
    dsimp only at hy
    have hl1 := hdl (d + (i - 1))
    have hl2 := hdl (d + i)
    have hly : y.length ≤ 1000 := by rw [hy, S_len]; exact hl1
    dsimp only [kstB] at F3
    clear F2 N2 R2
    k_steps
    · have hgt : (d : Int) < k := by assumption
      have hdec : decS y e = S (dueS qs o d (d + i) e.cps.toList) := by
        rw [hy, hstep (d + (i - 1)) (by omega) (by omega)]
        congr 2
        omega
      refine halted ?_
      k_dflt (refine' cl_use (c_decode w _ _ _ _ y e _ _ hly he he0) ?k1 ?k2 ?k3 ?k4 ?k5 ?kK ?kd ?ku ?_; (case k1 => k_asm); (case k2 => k_asm); (case k3 => k_asm); (case k4 => k_asm); (case k5 => k_asm); (case kK => exact rfl); (case kd => ktr_room); (case ku => ktr_units))
      intro t9 h9 tk9 F9 N9
      (try dsimp only)
      rw [hdec]
      k_steps
      refine halted ?_
      rw [show k = ((d + i : Nat) : Int) by omega]
      k_dflt (refine' cl_use (c_due w _ _ _ (news ++ own) l vs nn qs o d (d + i) e _ _ _ _ (List.mem_append_left _ hl) (hq.mono fun _ hp => List.mem_append_left _ hp) hk hlen ho hd (by omega) he) ?k1 ?k2 ?k3 ?k4 ?k5 ?kK ?kd ?ku ?_; (case k1 => k_asm); (case k2 => k_asm); (case k3 => k_asm); (case k4 => k_asm); (case k5 => k_asm); (case kK => exact rfl); (case kd => ktr_room); (case ku => ktr_units))
      intro t8 h8 tk8 F8 N8
      (try dsimp only)
      k_steps
      · with_reducible rename (_ != _) = true => hne
        exact ne_self hne
      · with_reducible rename Fr _ _ _ _ => F9
        with_reducible rename News _ _ _ _ => N9
        exact lpPost_next F9 N9 (fun p hp => hp) ⟨(_, _), rfl, List.forall_mem_cons.mpr ⟨rfl, List.forall_mem_cons.mpr ⟨rfl, List.forall_mem_cons.mpr ⟨rfl, List.forall_mem_cons.mpr ⟨rfl, List.forall_mem_cons.mpr ⟨rfl, List.forall_mem_nil _⟩⟩⟩⟩⟩⟩
    · have hgt : ¬ (d : Int) < k := by assumption
      have hy2 : y = S (dueS qs o d (d + i) e.cps.toList) := by
        rw [hy]
        congr 2
        omega
      subst hy2
      refine halted ?_
      rw [show k = ((d + i : Nat) : Int) by omega]
      k_dflt (refine' cl_use (c_due w _ _ _ (news ++ own) l vs nn qs o d (d + i) e _ _ _ _ (List.mem_append_left _ hl) (hq.mono fun _ hp => List.mem_append_left _ hp) hk hlen ho hd (by omega) he) ?k1 ?k2 ?k3 ?k4 ?k5 ?kK ?kd ?ku ?_; (case k1 => k_asm); (case k2 => k_asm); (case k3 => k_asm); (case k4 => k_asm); (case k5 => k_asm); (case kK => exact rfl); (case kd => ktr_room); (case ku => ktr_units))
      intro t8 h8 tk8 F8 N8
      (try dsimp only)
      k_steps
      · with_reducible rename (_ != _) = true => hne
        exact ne_self hne
      · with_reducible rename Fr _ _ _ _ => F9
        with_reducible rename News _ _ _ _ => N9
        exact lpPost_next F9 N9 (fun p hp => hp) ⟨(_, _), rfl, List.forall_mem_cons.mpr ⟨rfl, List.forall_mem_cons.mpr ⟨rfl, List.forall_mem_cons.mpr ⟨rfl, List.forall_mem_cons.mpr ⟨rfl, List.forall_mem_cons.mpr ⟨rfl, List.forall_mem_nil _⟩⟩⟩⟩⟩⟩
end
end Mine
end C10
section M7
open PySem PySem.W PyProof.Rows PySem.Calls PyProof.V PySem.Spec PySem.Builtin PySem.Builtin.Str
set_option Elab.async false
namespace Mine
def codeR : Nat → Str
  | 13 => Str.ofString "157"
  | 14 => Str.ofString "247"
  | 15 => Str.ofString "250"
  | _ => Str.ofString "257"
def feedR : Nat → Str
  | 0 => Str.ofString "\n"
  | 1 => Str.ofString "\r\n"
  | _ => Str.ofString "\r"
theorem item_str {prog : Program} {w : World} {A : Around} {E : Value → Shared → Prop} {s : Shared} {h₀ : Heap} {L : Addr} {news : List (Addr × Obj)} {value slice : PySem.Expr} {l : Addr} {vs : List Value} {nn : Nat} {k : Int} {u : Tok} {x : Str} {Q : Value → Shared → Prop}
    (N : News h₀ L s.heap news) (hm : (l, listOf vs.toArray nn) ∈ news) (h0 : 0 ≤ k) (hhi : k < 2 ^ 63) (hx : ∃ tk, vs[k.toNat]? = some (.str x tk)) (h : ∀ tk, Q (.str x tk) s)
    (hs : subscripted slice false (.ref l) (.int k u) = operate [.ref l, .int k u] (getItem (.ref l) (.int k u)) := by with_unfolding_all rfl) :
    wpAny (model prog w) A (subscriptTail value slice (.ref l) (.int k u)) Q E s := by
  obtain ⟨tk, hx⟩ := hx
  have hl : s.heap.IsList l vs.toArray := ⟨_, (N _ hm).1, rfl, nn, rfl⟩
  exact tail_any hl.typeIs PySem.F.slot_list_getitem.lookup (wpAny_getItem_list hl h0 hhi (by simpa using hx) (h tk)) hs
theorem lb1 {lid : Nat} (h : lid ≤ 3) : burL false ((lid : Int)).toNat (Str.ofString "\"").cps.toList = pieL (lid + 2) false 0 [] := by
  rw [oQ1]
  have : lid = 0 ∨ lid = 1 ∨ lid = 2 ∨ lid = 3 := by omega
  rcases this with rfl | rfl | rfl | rfl <;> decide +kernel
theorem drawn_k {l : List Int} : ∀ q ∈ List.map (fun k : Int => (k.fmod 13, (k.fdiv 13).fmod 2 == 1)) l, 0 ≤ q.1 ∧ q.1 ≤ 12 := by
  intro q hq
  obtain ⟨k, _, rfl⟩ := List.mem_map.mp hq
  dsimp only
  have h1 := Int.fmod_nonneg_of_pos k (b := 13) (by decide)
  have h2 := Int.fmod_lt_of_pos k (b := 13) (by decide)
  omega
theorem sum_le {l : List Nat} {B : Nat} (h : ∀ x ∈ l, x ≤ B) : l.sum ≤ B * l.length := by
  induction l with
  | nil => simp
  | cons a r ih =>
    have h1 := h a (List.mem_cons_self ..)
    have h2 := ih fun x hx => h x (List.mem_cons_of_mem _ hx)
    simp only [List.sum_cons, List.length_cons]
    rw [Nat.mul_succ]
    omega
theorem joinS (l : List Str) : Txt.join (Str.ofString "") l = S ((l.map fun x => x.cps.toList).flatten) := by
  show Builtin.Str.glued (Str.ofString "") l = _
  rw [StrLaws.glued_eq_join, o0]
  induction l with
  | nil => rfl
  | cons x r ih =>
    cases r with
    | nil => show x = _; simp [S_cps]
    | cons y r =>
      show x ++ S [] ++ Str.join (S []) (y :: r) = _
      rw [ih]
      conv => lhs; rw [← S_cps x]
      rw [S_append, S_append]
      simp
theorem join_lenS {qs : List (Int × Bool)} (hl : qs.length ≤ 10) (hk : ∀ q ∈ qs, 0 ≤ q.1 ∧ q.1 ≤ 13) : (Txt.join (Str.ofString "") (qs.map fun q => S (pieL q.1.toNat q.2 0 []))).length ≤ 100 := by
  rw [joinS, S_len, List.length_flatten]
  refine Nat.le_trans (sum_le (B := 10) ?_) ?_
  · intro x hx
    simp only [List.mem_map] at hx
    obtain ⟨y, ⟨z, ⟨q, hq, rfl⟩, rfl⟩, rfl⟩ := hx
    exact pieL_len (hk q hq).2 (by decide)
  · simp only [List.length_map]; omega
theorem modn (b n : Nat) (hb : 0 < b ∧ b < 100 := by decide) : 0 ≤ ((n : Int)).fmod b ∧ ((n : Int)).fmod b < 2 ^ 63 := by
  rw [Int.fmod_eq_emod_of_nonneg _ (by omega)]
  have h1 := Int.emod_nonneg (n : Int) (b := (b : Int)) (by omega)
  have h2 := Int.emod_lt_of_pos (n : Int) (b := (b : Int)) (by omega)
  omega
theorem modn_eq (b n : Nat) (hb : 0 < b := by decide) : (((n : Int)).fmod b).toNat = n % b := by
  rw [Int.fmod_eq_emod_of_nonneg _ (by omega)]
  omega
end Mine
end M7
section L1
open PySem PySem.W PyProof.Rows
set_option Elab.async false
set_option maxRecDepth 100000
namespace Mine
/-- a turn that makes one pair -/
def PcEl (news : List (Addr × Obj)) (q : Int × Bool) (y : Value) (news' : List (Addr × Obj)) : Prop :=
  (∀ p ∈ news, p ∈ news') ∧ ∃ (T : Addr) (t : Tok) (nn : Nat), y = .ref T ∧ (T, ({ cls := .type "tuple", data := .seq #[Value.int q.1 t, Value.bool q.2] nn } : Obj)) ∈ news'
/-- a turn that makes one text -/
def StEl (news : List (Addr × Obj)) (x : Str) (y : Value) (news' : List (Addr × Obj)) : Prop := news' = news ∧ ∃ t : Tok, y = .str x t
theorem PcsIn.snoc {news : List (Addr × Obj)} {vs : List Value} {qs : List (Int × Bool)} {T : Addr} {k : Int} {t : Tok} {b : Bool} {nn : Nat} (h : PcsIn news vs qs) (hm : (T, ({ cls := .type "tuple", data := .seq #[Value.int k t, Value.bool b] nn } : Obj)) ∈ news) : PcsIn news (vs ++ [.ref T]) (qs ++ [(k, b)]) := by
  induction h with
  | nil => exact .cons hm .nil
  | cons h1 _ ih => exact .cons h1 ih
theorem PcsIn.len {news : List (Addr × Obj)} {vs : List Value} {qs : List (Int × Bool)} (h : PcsIn news vs qs) : vs.length = qs.length := by
  induction h with
  | nil => rfl
  | cons _ _ ih => simp [ih]
theorem PcsIn.at' {news : List (Addr × Obj)} {vs : List Value} {qs : List (Int × Bool)} (h : PcsIn news vs qs) : ∀ (i : Nat) (v : Value), vs[i]? = some v → ∃ (T : Addr) (t : Tok) (nn : Nat) (q : Int × Bool), qs[i]? = some q ∧ v = .ref T ∧ (T, ({ cls := .type "tuple", data := .seq #[Value.int q.1 t, Value.bool q.2] nn } : Obj)) ∈ news := by
  induction h with
  | nil => intro i v hv; simp at hv
  | cons hm _ ih =>
    intro i v hv
    cases i with
    | zero =>
      rw [List.getElem?_cons_zero] at hv
      exact ⟨_, _, _, _, rfl, (Option.some.inj hv).symm, hm⟩
    | succ i =>
      rw [List.getElem?_cons_succ] at hv
      obtain ⟨T, t, nn, q, h1, h2, h3⟩ := ih i v hv
      exact ⟨T, t, nn, q, by rw [List.getElem?_cons_succ]; exact h1, h2, h3⟩
theorem carried_snoc {ys : List Value} {ds : List PyData} {x : Str} {t : Tok} (h : CarriedAll ys ds) : CarriedAll (ys ++ [.str x t]) (ds ++ [.str x]) := by
  induction h with
  | nil => exact .cons (.str x t) .nil
  | cons h1 _ ih => exact .cons h1 ih
section
variable {prog : Program} {w : World} {A : Around} {h₀ : Heap} {L : Addr} {m : Str → Option Value} {env : Env} {elt : PySem.Expr} {x x₂ : Str} {scope : Scope} {cl : List (Str × Addr)} {s₁ : Shared} {Fin : Shared → List Value → List (Addr × Obj) → Prop} {news : List (Addr × Obj)} {l : Addr} {vs : List Value} {nn : Nat}
theorem lc_pcs {ns : List Int} (g : Int → Int × Bool) (hi : IntsAre vs ns) (hh : A.handled = none) (F : Fr h₀ L s₁.heap m) (N : News h₀ L s₁.heap news) (hm : (l, listOf vs.toArray nn) ∈ news) (hsz : vs.length ≤ 1000)
    (turn : ∀ g' k t I oI C oC D m₂ ys h tk nw (E' : Value → Shared → Prop), k ∈ ns → LCg.NsObj oC m₂ → m₂ x = some (.int k t) → Fr h₀ L h m → News h₀ L h ((I, oI) :: (C, oC) :: (D, LCg.lst ys) :: nw) → LCg.Off3 I C D nw → ((@Ne Nat I C) ∧ (@Ne Nat I D) ∧ (@Ne Nat C D)) → (∀ p ∈ news, p ∈ nw) →
      wpAny (model prog w) A (eval elt (compEnvC scope cl C env)) (LCg.CompEnd h₀ L m { s₁ with heap := h, toks := tk } I oI C oC D (LCg.lst ys) (LCg.SrcAt h₀ l vs.toArray) (fun y nw' => PcEl nw (g k) y nw')) E' { ({ s₁ with heap := g' } : Shared) with heap := h, toks := tk })
    (fin : ∀ g' ys nw, PcsIn nw ys (ns.map g) → (∀ p ∈ news, p ∈ nw) → Fin { s₁ with heap := g' } ys nw) :
    LCg.CompSrc prog w A h₀ L m env elt x scope cl Fin (.ref l) s₁ := by
  refine LCg.CompSrc.ledger hh F N hm (by rw [List.size_toArray]; exact Nat.le_trans hsz (by decide)) ?_
  intro g'
  have hlen := hi.length
  have key : ∀ (j i : Nat) (ys : List Value) (nw : List (Addr × Obj)), i + j = vs.length → PcsIn nw ys ((ns.take i).map g) → (∀ p ∈ news, p ∈ nw) → LCg.CompRest prog w A h₀ L m env elt x scope cl { s₁ with heap := g' } (LCg.SrcAt h₀ l vs.toArray) (fun i v => vs.toArray[i]? = some v) (Fin { s₁ with heap := g' }) j i ys nw := by
    intro j
    induction j with
    | zero =>
      intro i ys nw hij hy hsub
      have e : i = ns.length := by omega
      subst e
      rw [List.take_length] at hy
      exact LCg.CompRest.zero (fin g' ys nw hy hsub)
    | succ j ih =>
      intro i ys nw hij hy hsub
      refine LCg.CompRest.succ ?_
      intro v I oI C oC D m₂ h tk E' hv hC hx F' N' off ne
      obtain ⟨k, t, hk', hv'⟩ := IntsAre.at hi i v (by simpa using hv)
      have hk : ns[i]? = some k := by first | exact hk' | exact hv'
      have hv2 : v = .int k t := by first | exact hv' | exact hk'
      rw [hv2] at hx
      refine wpAny_mono (turn g' k t I oI C oC D m₂ ys h tk nw E' (List.mem_of_getElem? hk) hC hx F' N' off ne hsub) (fun y s₂ hq => ?_) fun _ _ e => e
      obtain ⟨h', tk', nw', e, F9, N9, off9, hS9, hsub9, T, t9, n9, hy9, hT9⟩ := hq
      refine ⟨h', tk', nw', e, F9, N9, off9, hS9, ?_⟩
      rw [hy9]
      refine ih (i + 1) _ nw' (by omega) ?_ (fun p hp => hsub9 p (hsub p hp))
      rw [List.take_add_one, hk]
      simpa using PcsIn.snoc (hy.mono hsub9) hT9
  rw [List.size_toArray]
  exact key _ 0 [] news (by omega) .nil (fun _ hp => hp)
theorem lc_strs {qs : List (Int × Bool)} (g : Int × Bool → Str) (hi : PcsIn news vs qs) (hh : A.handled = none) (F : Fr h₀ L s₁.heap m) (N : News h₀ L s₁.heap news) (hm : (l, listOf vs.toArray nn) ∈ news) (hsz : vs.length ≤ 1000)
    (turn : ∀ g' k b t I oI C oC D m₂ ys h tk (E' : Value → Shared → Prop), (k, b) ∈ qs → LCg.NsObj oC m₂ → m₂ x = some (.int k t) → m₂ x₂ = some (.bool b) → Fr h₀ L h m → News h₀ L h ((I, oI) :: (C, oC) :: (D, LCg.lst ys) :: news) → LCg.Off3 I C D news → ((@Ne Nat I C) ∧ (@Ne Nat I D) ∧ (@Ne Nat C D)) →
      wpAny (model prog w) A (eval elt (compEnvC scope cl C env)) (LCg.CompEnd h₀ L m { s₁ with heap := h, toks := tk } I oI C oC D (LCg.lst ys) (LCg.SrcAt h₀ l vs.toArray) (fun y nw' => StEl news (g (k, b)) y nw')) E' { ({ s₁ with heap := g' } : Shared) with heap := h, toks := tk })
    (fin : ∀ g' ys, CarriedAll ys (qs.map fun q => PyData.str (g q)) → Fin { s₁ with heap := g' } ys news) :
    LCp.SrcLP prog w A h₀ L m env elt x x₂ scope cl Fin (.ref l) s₁ := by
  refine LCp.SrcLP.ledger hh F N hm (by rw [List.size_toArray]; exact Nat.le_trans hsz (by decide)) ?_
  intro g'
  have hlen := hi.len
  have key : ∀ (j i : Nat) (ys : List Value), i + j = vs.length → CarriedAll ys ((qs.take i).map fun q => PyData.str (g q)) → LCp.CompRestP prog w A h₀ L m env elt x x₂ scope cl { s₁ with heap := g' } (LCg.SrcAt h₀ l vs.toArray) (fun i v => vs.toArray[i]? = some v) (Fin { s₁ with heap := g' }) j i ys news := by
    intro j
    induction j with
    | zero =>
      intro i ys hij hy
      have e : i = qs.length := by omega
      subst e
      rw [List.take_length] at hy
      exact LCp.CompRestP.zero (fin g' ys hy)
    | succ j ih =>
      intro i ys hij hy
      refine LCp.CompRestP.succ ?_
      intro v hv
      obtain ⟨T, t, n9, ⟨k, b⟩, hq, rfl, hT⟩ := hi.at' i v (by simpa using hv)
      refine ⟨T, _, _, _, n9, rfl, hT, rfl, rfl, ?_⟩
      intro I oI C oC D m₂ h tk E' hC hx hx2 F' N' off ne
      refine wpAny_mono (turn g' k b t I oI C oC D m₂ ys h tk E' (List.mem_of_getElem? hq) hC hx hx2 F' N' off ne) (fun y s₂ hq9 => ?_) fun _ _ e => e
      obtain ⟨h', tk', nw', e, F9, N9, off9, hS9, hn9, t9, hy9⟩ := hq9
      rw [hn9] at N9 off9 hS9
      refine ⟨h', tk', news, e, F9, N9, off9, hS9, ?_⟩
      rw [hy9]
      refine ih (i + 1) _ (by omega) ?_
      rw [List.take_add_one, hq]
      simpa using carried_snoc hy
  rw [List.size_toArray]
  exact key _ 0 [] (by omega) .nil
end
theorem news_head {h₀ h : Heap} {L : Addr} {p : Addr × Obj} {r : List (Addr × Obj)} (N : News h₀ L h (p :: r)) : News h₀ L h [p] := fun q hq => N q (by rw [List.mem_singleton] at hq; rw [hq]; exact List.mem_cons_self ..)
theorem off3_new {I C D T : Addr} {o : Obj} {nw : List (Addr × Obj)} (h : I < T ∧ C < T ∧ D < T ∧ AllLt T nw) (off : LCg.Off3 I C D nw) : LCg.Off3 I C D ((T, o) :: nw) :=
  ⟨⟨Ne.symm (Nat.ne_of_lt h.1), Ne.symm (Nat.ne_of_lt h.2.1), Ne.symm (Nat.ne_of_lt h.2.2.1)⟩, off⟩
theorem four_sub {α : Type} {a b c d : α} {r : List α} : ∀ p ∈ a :: b :: c :: d :: r, p ∈ d :: a :: b :: c :: r := by
  intro p hp
  simp only [List.mem_cons] at hp ⊢
  rcases hp with h | h | h | h | h
  · exact .inr (.inl h)
  · exact .inr (.inr (.inl h))
  · exact .inr (.inr (.inr (.inl h)))
  · exact .inl h
  · exact .inr (.inr (.inr (.inr h)))
theorem lid_ex (n : Nat) : ∃ lid : Nat, lid ≤ 3 ∧ ((n : Int).fdiv 2).fmod 4 = (lid : Int) ∧ lid = n / 2 % 4 := by
  refine ⟨n / 2 % 4, by omega, ?_, rfl⟩
  rw [Int.fdiv_eq_ediv_of_nonneg _ (by decide), Int.fmod_eq_emod_of_nonneg _ (by decide)]
  omega
end Mine
end L1
section M8
open PySem PySem.W PyProof.Rows PySem.Calls PyProof.V PySem.Spec PySem.Builtin PySem.Builtin.Str
set_option Elab.async false
namespace Mine
/-- the answer, n times decoded -/
def ansL (c : List Nat) (lid n : Nat) (e : List Nat) (qs : List (Int × Bool)) : List Nat := c ++ 32 :: (pieL (lid + 2) false n e ++ (qs.map fun q => pieL q.1.toNat q.2 n e).flatten)
def QOk (qs : List (Int × Bool)) : Prop := ∃ ps : List (Int × Bool), (qs = ps ∨ qs = ps ++ [(13, false)]) ∧ ps.length ≤ 10 ∧ ∀ q ∈ ps, 0 ≤ q.1 ∧ q.1 ≤ 12
section
variable {qs : List (Int × Bool)} {c e : List Nat} {lid n r : Nat}
theorem QOk.k (h : QOk qs) : ∀ q ∈ qs, 0 ≤ q.1 ∧ q.1 ≤ 13 := by
  obtain ⟨ps, h1, _, h3⟩ := h
  intro q hq
  rcases h1 with rfl | rfl
  · have := h3 q hq; omega
  · rcases List.mem_append.mp hq with hq | hq
    · have := h3 q hq; omega
    · rw [List.mem_singleton.mp hq]; decide
theorem QOk.len (h : QOk qs) : qs.length ≤ 11 := by
  obtain ⟨ps, h1, h2, _⟩ := h
  rcases h1 with rfl | rfl
  · omega
  · simp only [List.length_append, List.length_singleton]; omega
theorem QOk.even {ps : List (Int × Bool)} (h1 : ps.length ≤ 10) (h2 : ∀ q ∈ ps, 0 ≤ q.1 ∧ q.1 ≤ 12) : QOk ps := ⟨ps, .inl rfl, h1, h2⟩
theorem QOk.odd {ps : List (Int × Bool)} (h1 : ps.length ≤ 10) (h2 : ∀ q ∈ ps, 0 ≤ q.1 ∧ q.1 ≤ 12) : QOk (ps ++ [(13, false)]) := ⟨ps, .inr rfl, h1, h2⟩
theorem pie_len {l : List (Int × Bool)} (hk : ∀ q ∈ l, 0 ≤ q.1 ∧ q.1 ≤ 13) (he : e.length ≤ 2) : ((l.map fun q => pieL q.1.toNat q.2 n e).flatten).length ≤ 10 * l.length := by
  rw [List.length_flatten]
  refine Nat.le_trans (sum_le (B := 10) ?_) (by simp)
  intro x hx
  simp only [List.mem_map] at hx
  obtain ⟨y, ⟨q, hq, rfl⟩, rfl⟩ := hx
  exact pieL_len (hk q hq).2 he
theorem ans_len (h : QOk qs) (hc : c.length = 3) (hl : lid ≤ 3) (he : e.length ≤ 2) : (ansL c lid n e qs).length ≤ 200 := by
  have h1 := pie_len (n := n) h.k he
  have h2 := h.len
  have h3 := pieL_len (k := ((lid + 2 : Nat) : Int)) (b := false) (n := n) (e := e) (by omega) he
  rw [Int.toNat_natCast] at h3
  simp only [ansL, List.length_append, List.length_cons]
  omega
theorem ans_lo (hc : c.length = 3) (hl : lid ≤ 3) : 5 ≤ (ansL c lid n e qs).length := by
  have h3 : 1 ≤ (pieL (lid + 2) false n e).length := by
    unfold pieL
    (repeat' split) <;> (try simp only [List.length_cons, List.length_nil, List.length_append, repL_len]) <;> omega
  simp only [ansL, List.length_append, List.length_cons]
  omega
theorem due_len {d : Nat} (he : e.length ≤ 2) : ∀ {l : List (Int × Bool)} {m : Nat}, (∀ q ∈ l, 0 ≤ q.1 ∧ q.1 ≤ 13) → (dueL d n e m l).length ≤ m + 10 * l.length
  | [], m, _ => by
    simp only [dueL, repL_len, List.length_cons, List.length_nil]; omega
  | (k, b) :: r, m, hk => by
    have h1 := hk _ (List.mem_cons_self ..)
    have h2 := fun q hq => hk q (List.mem_cons_of_mem _ hq)
    have h3 := due_len (d := d) he (l := r) (m := m + 1) h2
    have h4 := due_len (d := d) he (l := r) (m := m) h2
    have h5 := due_len (d := d) he (l := r) (m := 0) h2
    have h6 : (pieL k.toNat b n e).length ≤ 10 := pieL_len h1.2 he
    simp only [dueL, List.length_cons]
    split
    · omega
    · split
      · omega
      · simp only [List.length_append, repL_len, List.length_cons, List.length_nil]
        split <;> simp only [List.length_append, List.length_nil] <;> omega
theorem dueS_len (h : QOk qs) (he : e.length ≤ 2) (o d n : Nat) : (dueS qs o d n e).length ≤ 1000 := by
  unfold dueS
  split
  · simp
  · have h1 := due_len (d := d) (n := n) he (m := 0) h.k
    have h2 := h.len
    omega
/-! the plain law -/
theorem feed_len : (feedR r).length ≤ 2 ∧ 0 < (feedR r).length := by
  unfold feedR
  split <;> decide +kernel
theorem code_len : (codeR r).length = 3 := by
  unfold codeR
  split <;> decide +kernel
end
end Mine
end M8
section P1
open PySem PySem.W PyProof.Rows PySem.Calls PyProof.V PySem.Spec PySem.Builtin PySem.Builtin.Str PySem.StrLaws
set_option Elab.async false
namespace Mine
def rs (l : List Nat) : List Nat := (l.reverse.dropWhile Unicode.isSpace).reverse
/-- what decode appends for the text from here on: the line so far, and what follows -/
def run (e : List Nat) : List Nat → List Nat → List Nat
  | [], acc => if acc = [] then [] else dlE e (rs acc)
  | [c], acc => if Unicode.isLineBreak c = true then dlE e (rs acc) else dlE e (rs (acc ++ [c]))
  | c :: d :: r, acc => if Unicode.isLineBreak c = true then dlE e (rs acc) ++ (if c = 13 ∧ d = 10 then run e r [] else run e (d :: r) []) else run e (d :: r) (acc ++ [c])
theorem run_one {e : List Nat} {c : Nat} {r acc : List Nat} (h : Unicode.isLineBreak c = false) : run e (c :: r) acc = run e r (acc ++ [c]) := by
  cases r with
  | nil => simp [run, h]
  | cons d r => simp [run, h]
theorem run_brk1 {e : List Nat} {c : Nat} {r acc : List Nat} (h : Unicode.isLineBreak c = true) (h1 : ¬ (c = 13 ∧ r.head? = some 10)) : run e (c :: r) acc = dlE e (rs acc) ++ run e r [] := by
  cases r with
  | nil => simp [run, h]
  | cons d r =>
    simp only [List.head?_cons, Option.some.injEq] at h1
    simp [run, h, h1]
theorem run_brk2 {e : List Nat} {r acc : List Nat} : run e (13 :: 10 :: r) acc = dlE e (rs acc) ++ run e r [] := by
  have h : Unicode.isLineBreak 13 = true := by decide +kernel
  simp [run, h]
theorem rstrip_rs (x : Str) : (Txt.rstrip x).cps.toList = rs x.cps.toList := by
  have key : x.cps.toList.take (x.length - (x.cps.toList.reverse.takeWhile Unicode.isSpace).length) = rs x.cps.toList := by
    unfold rs
    have h := List.takeWhile_append_dropWhile (p := Unicode.isSpace) (l := x.cps.toList.reverse)
    have h2 := congrArg List.reverse h
    rw [List.reverse_append, List.reverse_reverse] at h2
    have h3 := congrArg List.length h2
    rw [List.length_append, List.length_reverse, List.length_reverse, clen] at h3
    generalize hN : x.length - (x.cps.toList.reverse.takeWhile Unicode.isSpace).length = N
    conv => lhs; rw [← h2]
    rw [List.take_append_of_le_length (by rw [List.length_reverse]; omega), List.take_of_length_le (by rw [List.length_reverse]; omega)]
  show (Txt.stripBy Unicode.isSpace false true x).cps.toList = _
  unfold Txt.stripBy
  split
  · rename_i h
    unfold stripSame stripLo stripHi at h
    simp only [Bool.false_eq_true, if_false, if_true, List.drop_zero, beq_self_eq_true, Bool.true_and, beq_iff_eq] at h
    rw [h] at key
    rw [← key, List.take_of_length_le (by rw [clen]; exact Nat.le_refl _)]
  · unfold PySem.stripped stripLo stripHi strSub
    simp only [Bool.false_eq_true, if_false, if_true, List.drop_zero]
    rw [← key]
    simp
theorem lines_of (x : Str) : Txt.lines x = linesOf x := by
  unfold Txt.lines
  split
  · rename_i h
    have h := eq_of_beq h
    unfold linesOf
    rw [h]
    show [x] = [strSub x 0 x.length]
    unfold strSub
    congr 1
    show x = (⟨x.cps.extract 0 x.cps.size⟩ : Str)
    simp
  · rfl
def outP (e l : List Nat) (ps : List (Nat × Nat × Nat)) : List Nat := (ps.map fun p => dlE e (rs ((l.drop p.1).take (p.2.1 - p.1)))).flatten
theorem outP_snoc {e l : List Nat} {ps : List (Nat × Nat × Nat)} {p : Nat × Nat × Nat} : outP e l (ps ++ [p]) = outP e l ps ++ dlE e (rs ((l.drop p.1).take (p.2.1 - p.1))) := by simp [outP]
theorem ls_out (e l : List Nat) : ∀ (m cur : Nat) (st : LsSt), cur + m = l.length → st.2 ≤ cur + 1 → st.2 ≤ l.length →
    outP e l (lsEnd (S l) (Id.run (forIn (m := Id) (List.range' cur m) st (lsBody (S l))))) = outP e l st.1.toList ++ run e (l.drop (max cur st.2)) ((l.drop st.2).take (cur - st.2))
  | 0, cur, (lines, start), hm, h1, h2 => by
    show outP e l (lsEnd (S l) (lines, start)) = _
    dsimp only at h1 h2 ⊢
    unfold lsEnd
    rw [S_len]
    dsimp only
    by_cases hs : start < l.length
    · rw [if_pos hs, Array.toList_push, outP_snoc]
      dsimp only
      rw [List.drop_of_length_le (i := max cur start) (by omega), run, if_neg (by
        intro h
        have := congrArg List.length h
        simp only [List.length_take, List.length_drop, List.length_nil] at this
        omega), show cur = l.length by omega]
    · rw [if_neg hs, List.drop_of_length_le (i := max cur start) (by omega), run, if_pos (by rw [List.drop_of_length_le (by omega)]; simp)]
      simp
  | m + 1, cur, (lines, start), hm, h1, h2 => by
    dsimp only at h1 h2 ⊢
    rw [List.range'_succ, List.forIn_cons]
    have hc : (S l).cps.getD cur 0 = l.getD cur 0 := by simp [S]
    have hd : (S l).cps[cur + 1]? = l[cur + 1]? := by simp [S]
    unfold lsBody
    by_cases hle : start ≤ cur
    · have e0 : l.drop cur = l.getD cur 0 :: l.drop (cur + 1) := drop_cons (by omega)
      have hh : (l.drop (cur + 1)).head? = l[cur + 1]? := by simp [List.head?_drop]
      by_cases hb : Unicode.isLineBreak (l.getD cur 0) = true
      · simp only [hc, hle, hb, decide_true, Bool.and_self, if_true]
        show outP e l (lsEnd (S l) (Id.run (forIn (m := Id) (List.range' (cur + 1) m) (lines.push (start, cur, lsNext (S l) cur), lsNext (S l) cur) (lsBody (S l))))) = _
        have hn : lsNext (S l) cur = if l.getD cur 0 = 13 ∧ l[cur + 1]? = some 10 then cur + 2 else cur + 1 := by
          unfold lsNext
          rw [hc, hd]
          by_cases hx : l.getD cur 0 = 13 ∧ l[cur + 1]? = some 10
          · rw [if_pos hx, hx.1, hx.2]; rfl
          · rw [if_neg hx, if_neg]
            simpa using hx
        have hN : lsNext (S l) cur ≤ l.length := by
          rw [hn]
          split
          · rename_i hx
            obtain ⟨hi, _⟩ := List.getElem?_eq_some_iff.mp hx.2
            omega
          · omega
        rw [ls_out e l m (cur + 1) _ (by omega) (by dsimp only; have := lsNext_bounds (S l) cur; omega) hN]
        dsimp only
        rw [Array.toList_push, outP_snoc, List.append_assoc]
        congr 1
        dsimp only
        rw [show max cur start = cur by omega, e0]
        by_cases hx : l.getD cur 0 = 13 ∧ l[cur + 1]? = some 10
        · rw [hn, if_pos hx, hx.1]
          obtain ⟨hi, hv⟩ := List.getElem?_eq_some_iff.mp hx.2
          have e1 : l.drop (cur + 1) = 10 :: l.drop (cur + 2) := by rw [List.drop_eq_getElem_cons hi, hv]
          rw [e1, run_brk2, show max (cur + 1) (cur + 2) = cur + 2 by omega, show cur + 1 - (cur + 2) = 0 by omega, List.take_zero]
        · rw [hn, if_neg hx, run_brk1 hb (by rw [hh]; exact hx), Nat.max_self, Nat.sub_self, List.take_zero]
      · have hb' : Unicode.isLineBreak (l.getD cur 0) = false := by simpa using hb
        simp only [hc, hb', Bool.and_false, Bool.false_eq_true, if_false]
        show outP e l (lsEnd (S l) (Id.run (forIn (m := Id) (List.range' (cur + 1) m) (lines, start) (lsBody (S l))))) = _
        rw [ls_out e l m (cur + 1) _ (by omega) (by dsimp only; omega) (by dsimp only; omega)]
        dsimp only
        congr 1
        rw [show max cur start = cur by omega, show max (cur + 1) start = cur + 1 by omega, e0, run_one hb']
        congr 1
        rw [show cur + 1 - start = (cur - start) + 1 by omega, List.take_add_one, List.getElem?_drop, show start + (cur - start) = cur by omega, List.getD_eq_getElem?_getD, List.getElem?_eq_getElem (by omega)]
        rfl
    · simp only [hle, decide_false, Bool.false_and, Bool.false_eq_true, if_false]
      show outP e l (lsEnd (S l) (Id.run (forIn (m := Id) (List.range' (cur + 1) m) (lines, start) (lsBody (S l))))) = _
      rw [ls_out e l m (cur + 1) _ (by omega) (by dsimp only; omega) (by dsimp only; omega)]
      dsimp only
      congr 1
      rw [show max (cur + 1) start = max cur start by omega, show cur + 1 - start = cur - start by omega]
theorem linesOut_run (e l : List Nat) : linesOut e (Txt.lines (S l)) = run e l [] := by
  rw [lines_of]
  have h := ls_out e l l.length 0 (#[], 0) (by omega) (by dsimp only; omega) (by dsimp only; omega)
  have h2 := ls_eq (S l)
  rw [S_len] at h2
  rw [← h2] at h
  have h3 : linesOut e (linesOf (S l)) = outP e l (lineSpans (S l)) := by
    unfold linesOut outP linesOf lineCuts
    rw [List.map_map, List.map_map]
    congr 1
    apply List.map_congr_left
    intro ⟨i, j, k⟩ _
    show dlE e (Txt.rstrip (strSub (S l) i j)).cps.toList = _
    rw [rstrip_rs]
    congr 2
    simp [strSub, S]
  rw [h3, h]
  simp [outP]
end Mine
end P1
section P2
open PySem PySem.W PyProof.Rows PySem.Calls PyProof.V PySem.Spec PySem.Builtin PySem.Builtin.Str
set_option Elab.async false
namespace Mine
/-- a text that decode reads whole, whatever follows -/
def cls : List Nat → Option (List Nat)
  | [] => some []
  | [c] => if c = 61 then none else some [c]
  | [c, d] => if c = 61 ∨ d = 61 then none else some [c, d]
  | c :: a :: b :: r => if c = 61 ∧ isHex a = true ∧ isHex b = true then (cls r).map ((hexV a * 16 + hexV b) :: ·) else (cls (a :: b :: r)).map (c :: ·)
theorem cls_ok (e x : List Nat) : ∀ n p, p.length ≤ n → ∀ p', cls p = some p' → dlE e (p ++ x) = p' ++ dlE e x := by
  intro n
  induction n with
  | zero =>
    intro p hp p' h
    cases p with
    | nil => simp [cls] at h; subst h; rfl
    | cons c r => simp at hp
  | succ n ih =>
    intro p hp p' h
    match p with
    | [] => simp [cls] at h; subst h; rfl
    | [c] =>
      simp only [cls] at h
      split at h
      · cases h
      · rename_i hc
        have := Option.some.inj h
        subst this
        exact dlE_lit hc
    | [c, d] =>
      simp only [cls] at h
      split at h
      · cases h
      · rename_i hc
        have := Option.some.inj h
        subst this
        show dlE e (c :: d :: x) = _
        rw [dlE_lit (by omega), dlE_lit (by omega)]
        rfl
    | c :: a :: b :: r =>
      rw [cls] at h
      split at h
      · rename_i hc
        obtain ⟨q, hq, rfl⟩ := Option.map_eq_some_iff.mp h
        have := ih r (by simp at hp; omega) q hq
        show dlE e (c :: a :: b :: (r ++ x)) = _
        rw [hc.1, dlE_hex hc.2.1 hc.2.2, this]
        rfl
      · rename_i hc
        obtain ⟨q, hq, rfl⟩ := Option.map_eq_some_iff.mp h
        have := ih (a :: b :: r) (by simp at hp ⊢; omega) q hq
        show dlE e (c :: a :: b :: (r ++ x)) = _
        rw [dlE, if_neg hc]
        exact congrArg (c :: ·) this
/-- the line so far, and what it came to -/
def Acc (e acc acc' : List Nat) : Prop := (∀ x, dlE e (acc ++ x) = acc' ++ dlE e x) ∧ ∀ c, acc.getLast? = some c → Unicode.isSpace c = false
theorem Acc.nil (e : List Nat) : Acc e [] [] := ⟨fun _ => rfl, fun c h => by simp at h⟩
theorem Acc.of_nil {e a : List Nat} (h : Acc e [] a) : a = [] := by
  have := congrArg List.length (h.1 [])
  simp only [List.nil_append, List.length_append] at this
  exact List.eq_nil_of_length_eq_zero (by omega)
structure Inl (e p p' : List Nat) : Prop where
  read : ∀ x, dlE e (p ++ x) = p' ++ dlE e x
  flat : ∀ c ∈ p, Unicode.isLineBreak c = false
  last : ∀ c, p.getLast? = some c → Unicode.isSpace c = false
structure Brk (e : List Nat) (f : Bool) (p p' : List Nat) : Prop where
  ex : ∃ a bl br, p = a ++ (bl ++ br) ∧ dlE e a = p' ∧ (∀ c ∈ a ++ bl, Unicode.isLineBreak c = false) ∧ (∀ c ∈ bl, Unicode.isSpace c = true) ∧ (∀ c, a.getLast? = some c → Unicode.isSpace c = false) ∧
    (br = [10] ∨ br = [13, 10] ∨ (br = [13] ∧ f = true)) ∧ (f = true → p.head? ≠ some 10)
/-- texts, decoded piece by piece -/
inductive Tx (e : List Nat) (f : Bool) : List Nat → List Nat → Prop
  | nil : Tx e f [] []
  | last : Tx e f [111, 61, 32] [111]
  | inl {p p' r r'} : Inl e p p' → Tx e f r r' → Tx e f (p ++ r) (p' ++ r')
  | brk {p p' r r'} : Brk e f p p' → Tx e f r r' → Tx e f (p ++ r) (p' ++ r')
theorem Tx.head {e t t' : List Nat} {f : Bool} (h : Tx e f t t') (hf : f = true) : t.head? ≠ some 10 := by
  induction h with
  | nil => simp
  | last => decide
  | @inl p p' r r' hp _ ih =>
    cases p with
    | nil => exact ih
    | cons c q =>
      intro h
      have hc : c = 10 := by simpa using h
      have := hp.flat c (List.mem_cons_self ..)
      rw [hc] at this
      exact absurd this (by decide +kernel)
  | @brk p p' r r' hp _ ih =>
    obtain ⟨a, bl, br, h1, _, _, _, _, h6, h7⟩ := hp.ex
    have hne : p ≠ [] := by
      rw [h1]
      rcases h6 with rfl | rfl | ⟨rfl, _⟩ <;> simp
    cases p with
    | nil => exact absurd rfl hne
    | cons c q => exact h7 hf
theorem run_inl {e : List Nat} : ∀ (p r acc : List Nat), (∀ c ∈ p, Unicode.isLineBreak c = false) → run e (p ++ r) acc = run e r (acc ++ p)
  | [], r, acc, _ => by simp
  | c :: q, r, acc, h => by
    show run e (c :: (q ++ r)) acc = _
    rw [run_one (h c (List.mem_cons_self ..)), run_inl q r _ fun d hd => h d (List.mem_cons_of_mem _ hd)]
    simp
theorem lb10 : Unicode.isLineBreak 10 = true := by decide +kernel
theorem lb13 : Unicode.isLineBreak 13 = true := by decide +kernel
theorem run_brk {e r acc br : List Nat} {f : Bool} (h : br = [10] ∨ br = [13, 10] ∨ (br = [13] ∧ f = true)) (hr : f = true → r.head? ≠ some 10) : run e (br ++ r) acc = dlE e (rs acc) ++ run e r [] := by
  rcases h with rfl | rfl | ⟨rfl, hf⟩
  · exact run_brk1 lb10 (by simp)
  · exact run_brk2
  · exact run_brk1 lb13 (fun h => hr hf h.2)
theorem rs_blank {a bl : List Nat} (hb : ∀ c ∈ bl, Unicode.isSpace c = true) (ha : ∀ c, a.getLast? = some c → Unicode.isSpace c = false) : rs (a ++ bl) = a := by
  unfold rs
  rw [List.reverse_append, List.dropWhile_append_of_pos (by intro c hc; exact hb c (List.mem_reverse.mp hc))]
  cases h : a.reverse with
  | nil => simpa using h
  | cons c q =>
    have hl : a.getLast? = some c := by rw [List.getLast?_eq_head?_reverse, h]; rfl
    rw [List.dropWhile_cons_of_neg (by rw [ha c hl]; decide), ← h, List.reverse_reverse]
theorem rs_same {a : List Nat} (ha : ∀ c, a.getLast? = some c → Unicode.isSpace c = false) : rs a = a := by
  have := rs_blank (bl := []) (fun c h => by cases h) ha
  simpa using this
theorem last_app {a b : List Nat} {c : Nat} (hb : b ≠ []) : (a ++ b).getLast? = some c ↔ b.getLast? = some c := by
  rw [List.getLast?_append]
  cases h : b.getLast? with
  | none => exact absurd (List.getLast?_eq_none_iff.mp h) hb
  | some d => simp
theorem Acc.snoc {e acc acc' p p' : List Nat} (h : Acc e acc acc') (hp : Inl e p p') : Acc e (acc ++ p) (acc' ++ p') := by
  refine ⟨fun x => ?_, fun c hc => ?_⟩
  · rw [List.append_assoc, h.1, hp.read, List.append_assoc]
  · by_cases hq : p = []
    · rw [hq, List.append_nil] at hc; exact h.2 c hc
    · exact hp.last c ((last_app hq).mp hc)
/-- how a text ends: open (the line's end is to come off), shut, or lone -/
inductive Ends (e run acct t' : List Nat) : Prop
  | opn (c : Nat) : run = t' ++ e → acct.getLast? = some c → Unicode.isSpace c = false → Ends e run acct t'
  | void : run = t' → acct = [] → t' = [] → Ends e run acct t'
  | shut (c : Nat) : run = t' → acct.getLast? = some c → isEnd c = true → Ends e run acct t'
  | lone : run = t' → acct.getLast? = some 32 → t'.getLast? = some 111 → Ends e run acct t'
theorem tx_run {e t t' : List Nat} {f : Bool} (h : Tx e f t t') : ∀ acc acc', Acc e acc acc' → Ends e (run e t acc) (acc ++ t) (acc' ++ t') := by
  induction h with
  | nil =>
    intro acc acc' ha
    rw [run, List.append_nil, List.append_nil]
    by_cases h0 : acc = []
    · subst h0
      rw [if_pos rfl, ha.of_nil]
      exact .void rfl rfl rfl
    · rw [if_neg h0, rs_same ha.2]
      cases hl : acc.getLast? with
      | none => exact absurd (List.getLast?_eq_none_iff.mp hl) h0
      | some c =>
        have := ha.1 []
        rw [List.append_nil] at this
        exact .opn c (by rw [this]; rfl) hl (ha.2 c hl)
  | last =>
    intro acc acc' ha
    refine .lone ?_ ((last_app (by simp)).mpr rfl) ((last_app (by simp)).mpr rfl)
    have h1 := run_inl (e := e) [111, 61, 32] [] acc (by decide +kernel)
    rw [List.append_nil] at h1
    rw [h1, run, if_neg (by simp), show acc ++ [111, 61, 32] = (acc ++ [111, 61]) ++ [32] by simp, rs_blank (by decide +kernel) (fun c hc => by
      have := (last_app (by simp)).mp hc
      have hc : c = 61 := by simpa using this.symm
      rw [hc]; decide +kernel), ha.1]
    rfl
  | @inl p p' r r' hp _ ih =>
    intro acc acc' ha
    have := ih _ _ (ha.snoc hp)
    rw [run_inl p r acc hp.flat]
    simpa [List.append_assoc] using this
  | @brk p p' r r' hp hr ih =>
    intro acc acc' ha
    obtain ⟨a, bl, br, h1, h2, h3, h4, h5, h6, h7⟩ := hp.ex
    have hrun : run e (p ++ r) acc = acc' ++ p' ++ run e r [] := by
      rw [h1, show a ++ (bl ++ br) ++ r = (a ++ bl) ++ (br ++ r) by simp, run_inl _ _ _ h3, run_brk h6 (fun hf => hr.head hf), ← List.append_assoc, rs_blank h4, ha.1, h2]
      intro c hc
      by_cases hq : a = []
      · rw [hq, List.append_nil] at hc; exact ha.2 c hc
      · exact h5 c ((last_app hq).mp hc)
    have hne : p ≠ [] := by
      rw [h1]
      rcases h6 with rfl | rfl | ⟨rfl, _⟩ <;> simp
    have hlp : ∃ c, p.getLast? = some c ∧ isEnd c = true := by
      rw [h1, ← List.append_assoc]
      rcases h6 with rfl | rfl | ⟨rfl, _⟩
      · exact ⟨10, (last_app (by simp)).mpr rfl, rfl⟩
      · exact ⟨10, (last_app (by simp)).mpr rfl, rfl⟩
      · exact ⟨13, (last_app (by simp)).mpr rfl, rfl⟩
    rw [hrun]
    have hi := ih [] [] (Acc.nil e)
    rw [List.nil_append, List.nil_append] at hi
    have grow : ∀ c, r.getLast? = some c → (acc ++ (p ++ r)).getLast? = some c := by
      intro c hc
      have hr0 : r ≠ [] := by intro h0; rw [h0] at hc; simp at hc
      rw [← List.append_assoc]
      exact (last_app hr0).mpr hc
    cases hi with
    | opn c h1 h2 h3 => exact .opn c (by rw [h1]; simp) (grow c h2) h3
    | void h1 h2 h3 =>
      obtain ⟨c, hc, hce⟩ := hlp
      refine .shut c (by rw [h1]; simp) ?_ hce
      rw [h2, List.append_nil]
      exact (last_app hne).mpr hc
    | shut c h1 h2 h3 => exact .shut c (by rw [h1]; simp) (grow c h2) h3
    | lone h1 h2 h3 =>
      refine .lone (by rw [h1]; simp) (grow 32 h2) ?_
      rw [← List.append_assoc]
      exact (last_app (by intro h0; rw [h0] at h3; simp at h3)).mpr h3
end Mine
end P2
section P3
open PySem PySem.W PyProof.Rows PySem.Calls PyProof.V PySem.Spec PySem.Builtin PySem.Builtin.Str
set_option Elab.async false
namespace Mine
def threeE : List (List Nat) := [[10], [13, 10], [13]]
theorem three_end {e : List Nat} (he : e ∈ threeE) : e ≠ [] ∧ e.getLast? ≠ some 111 := by
  simp only [threeE, List.mem_cons, List.not_mem_nil, or_false] at he
  rcases he with rfl | rfl | rfl <;> decide
theorem chop_on {e t : List Nat} : chop e (t ++ e) = t := by
  unfold chop
  rw [List.length_append, Nat.add_sub_cancel, List.drop_left, if_pos rfl, List.take_left]
theorem chop_off {e t : List Nat} (he : e ≠ []) (he2 : e.getLast? ≠ some 111) (h : t.getLast? = some 111) : chop e t = t := by
  unfold chop
  rw [if_neg]
  intro h2
  have h3 := List.take_append_drop (t.length - e.length) t
  rw [h2] at h3
  rw [← h3] at h
  exact he2 ((last_app he).mp h)
theorem last_getD {t : List Nat} {c : Nat} (h : t.getLast? = some c) : t.getD (t.length - 1) 0 = c := by
  rw [List.getLast?_eq_getElem?] at h
  rw [List.getD_eq_getElem?_getD, h]
  rfl
theorem space_end {c : Nat} (h : Unicode.isSpace c = false) : isEnd c = false := by
  unfold isEnd
  by_cases h1 : c = 13
  · rw [h1] at h; exact absurd h (by decide +kernel)
  · by_cases h2 : c = 10
    · rw [h2] at h; exact absurd h (by decide +kernel)
    · simp [h1, h2]
theorem tx_dec {e t t' : List Nat} {f : Bool} (he : e ∈ threeE) (h : Tx e f t t') : decS (S t) (S e) = S t' := by
  have hr := tx_run h [] [] (Acc.nil e)
  rw [List.nil_append, List.nil_append] at hr
  obtain ⟨he1, he2⟩ := three_end he
  have hl := linesOut_run e t
  have e1 : (S t).cps.toList = t := rfl
  have e2 : (S e).cps.toList = e := rfl
  unfold decS
  rw [S_len, e1, e2, hl]
  have pos : ∀ c, t.getLast? = some c → t.length ≠ 0 := by
    intro c hc h0
    rw [List.eq_nil_of_length_eq_zero h0] at hc
    simp at hc
  cases hr with
  | opn c h1 h2 h3 => rw [if_neg (pos c h2), last_getD h2, if_neg (by rw [space_end h3]; decide), h1, chop_on]
  | void h1 h2 h3 => rw [h2, h3]; rfl
  | shut c h1 h2 h3 => rw [if_neg (pos c h2), last_getD h2, if_pos h3, h1]
  | lone h1 h2 h3 => rw [if_neg (pos _ h2), last_getD h2, if_neg (by decide), h1, chop_off he1 he2 h3]
/-- the check of one piece -/
def inlOK (p p' : List Nat) : Bool := cls p == some p' && p.all (fun c => !Unicode.isLineBreak c) && (match p.getLast? with | some c => !Unicode.isSpace c | none => true)
def brkA (e p' t : List Nat) : Bool :=
  let a := (t.dropWhile Unicode.isSpace).reverse
  t.all (fun c => !Unicode.isLineBreak c) && dlE e a == p'
def brkOK (e : List Nat) (f : Bool) (p p' : List Nat) : Bool :=
  (!f || p.head? != some 10) && (match p.reverse with
    | 10 :: 13 :: t => brkA e p' t
    | 10 :: t => brkA e p' t
    | 13 :: t => f && brkA e p' t
    | _ => false)
theorem inl_of {e p p' : List Nat} (h : inlOK p p' = true) : Inl e p p' := by
  unfold inlOK at h
  simp only [Bool.and_eq_true, beq_iff_eq, List.all_eq_true, Bool.not_eq_true'] at h
  refine ⟨fun x => cls_ok e x _ p (Nat.le_refl _) p' h.1.1, h.1.2, fun c hc => ?_⟩
  have := h.2
  rw [hc] at this
  simpa using this
theorem brkA_of {e p' t br : List Nat} {f : Bool} {p : List Nat} (h : brkA e p' t = true) (hp : p = t.reverse ++ br) (hbr : br = [10] ∨ br = [13, 10] ∨ (br = [13] ∧ f = true)) (hf : f = true → p.head? ≠ some 10) : Brk e f p p' := by
  unfold brkA at h
  simp only [Bool.and_eq_true, beq_iff_eq, List.all_eq_true, Bool.not_eq_true'] at h
  have ht := List.takeWhile_append_dropWhile (p := Unicode.isSpace) (l := t)
  have ht2 := congrArg List.reverse ht
  rw [List.reverse_append] at ht2
  refine ⟨(t.dropWhile Unicode.isSpace).reverse, (t.takeWhile Unicode.isSpace).reverse, br, by rw [hp, ← ht2, List.append_assoc], h.2, ?_, ?_, ?_, hbr, hf⟩
  · rw [ht2]
    intro c hc
    exact h.1 c (List.mem_reverse.mp hc)
  · intro c hc
    have hall := List.all_takeWhile (p := Unicode.isSpace) (l := t)
    rw [List.all_eq_true] at hall
    exact hall c (List.mem_reverse.mp hc)
  · intro c hc
    rw [List.getLast?_reverse] at hc
    have := List.head?_dropWhile_not Unicode.isSpace t
    rw [hc] at this
    simpa using this
theorem brk_of {e p p' : List Nat} {f : Bool} (h : brkOK e f p p' = true) : Brk e f p p' := by
  unfold brkOK at h
  rw [Bool.and_eq_true] at h
  obtain ⟨h1, h2⟩ := h
  have hf : f = true → p.head? ≠ some 10 := by
    intro hf
    rw [hf] at h1
    simpa using h1
  have hrev : p = p.reverse.reverse := (List.reverse_reverse p).symm
  split at h2
  · rename_i t ht
    exact brkA_of (br := [13, 10]) h2 (by rw [hrev, ht]; simp) (.inr (.inl rfl)) hf
  · rename_i t _ ht
    exact brkA_of (br := [10]) h2 (by rw [hrev, ht]; simp) (.inl rfl) hf
  · rename_i t ht
    rw [Bool.and_eq_true] at h2
    exact brkA_of (br := [13]) h2.2 (by rw [hrev, ht]; simp) (.inr (.inr ⟨rfl, h2.1⟩)) hf
  · cases h2
/-- no piece opens with a line feed -/
def flagE (e : List Nat) (n : Nat) : Bool := !(e == [10] && decide (1 ≤ n))
theorem pieces_ok : ∀ e ∈ threeE, ∀ n ∈ List.range 3, ∀ b ∈ [true, false], ∀ k ∈ List.range 13, (inlOK (pieL k b n e) (pieL k b (n + 1) e) || brkOK e (flagE e n) (pieL k b n e) (pieL k b (n + 1) e)) = true := by
  decide +kernel
end Mine
end P3
section P4
open PySem PySem.W PyProof.Rows PySem.Calls PyProof.V PySem.Spec PySem.Builtin PySem.Builtin.Str
set_option Elab.async false
namespace Mine
section
variable {e : List Nat} {n m d : Nat} {k : Int} {b : Bool}
theorem tx_piece (he : e ∈ threeE) (hn : n < 3) (h0 : 0 ≤ k) (h1 : k ≤ 12) {r r' : List Nat} (h : Tx e (flagE e n) r r') : Tx e (flagE e n) (pieL k.toNat b n e ++ r) (pieL k.toNat b (n + 1) e ++ r') := by
  have := pieces_ok e he n (List.mem_range.mpr hn) b (by cases b <;> simp) k.toNat (List.mem_range.mpr (by omega))
  rw [Bool.or_eq_true] at this
  rcases this with h2 | h2
  · exact .inl (inl_of h2) h
  · exact .brk (brk_of h2) h
theorem tx_thirteen : ∃ r r', pieL 13 false n e = r ∧ pieL 13 false (n + 1) e = r' ∧ Tx e (flagE e n) r r' := by
  refine ⟨_, _, rfl, rfl, ?_⟩
  have h1 : pieL 13 false (n + 1) e = [111] := by simp [pieL]
  rw [h1]
  cases n with
  | zero => exact .last
  | succ n =>
    have h2 : pieL 13 false (n + 1) e = [111] := by simp [pieL]
    rw [h2]
    exact .inl (p := [111]) (p' := [111]) (inl_of (by decide +kernel)) .nil
theorem tx_pieces (he : e ∈ threeE) (hn : n < 3) : ∀ ps : List (Int × Bool), (∀ q ∈ ps, 0 ≤ q.1 ∧ q.1 ≤ 12) → ∀ qs, qs = ps ∨ qs = ps ++ [(13, false)] → Tx e (flagE e n) (qs.map fun q => pieL q.1.toNat q.2 n e).flatten (qs.map fun q => pieL q.1.toNat q.2 (n + 1) e).flatten
  | [], _, qs, h => by
    rcases h with rfl | rfl
    · exact .nil
    · obtain ⟨r, r', h1, h2, h3⟩ := tx_thirteen (n := n) (e := e)
      subst h1 h2
      simpa using h3
  | (k, b) :: ps, hk, qs, h => by
    have h1 := hk _ (List.mem_cons_self ..)
    have h2 := fun q hq => hk q (List.mem_cons_of_mem _ hq)
    rcases h with rfl | rfl
    · simpa using tx_piece (b := b) he hn h1.1 h1.2 (tx_pieces he hn ps h2 _ (.inl rfl))
    · simpa using tx_piece (b := b) he hn h1.1 h1.2 (tx_pieces he hn ps h2 _ (.inr rfl))
theorem inl_marks (j : Nat) : Inl e (repL [34] j) (repL [34] j) := by
  have hm : ∀ c ∈ repL [34] j, c = 34 := by
    intro c hc
    simp only [repL, List.mem_flatten, List.mem_replicate] at hc
    obtain ⟨l, ⟨_, rfl⟩, hc⟩ := hc
    exact List.mem_singleton.mp hc
  refine ⟨?_, ?_, ?_⟩
  · intro x
    induction j with
    | zero => rfl
    | succ j ih =>
      have e1 : repL [34] (j + 1) = 34 :: repL [34] j := by simp [repL, List.replicate_succ]
      rw [e1, List.cons_append, dlE_lit (by decide), ih (fun c hc => hm c (by rw [e1]; exact List.mem_cons_of_mem _ hc))]
      rfl
  · intro c hc
    rw [hm c hc]; decide +kernel
  · intro c hc
    rw [hm c (List.mem_of_getLast? hc)]; decide +kernel
theorem tx_due (he : e ∈ threeE) (hn : n < 3) : ∀ ps : List (Int × Bool), (∀ q ∈ ps, 0 ≤ q.1 ∧ q.1 ≤ 12) → ∀ qs, qs = ps ∨ qs = ps ++ [(13, false)] → ∀ m, d ≤ 3 → Tx e (flagE e n) (dueL d n e m qs) (dueL d (n + 1) e m qs)
  | [], _, qs, h, m, hd => by
    have base : Tx e (flagE e n) (repL [34] (m / 2)) (repL [34] (m / 2)) := by
      have := Tx.inl (f := flagE e n) (inl_marks (e := e) (m / 2)) .nil
      simpa using this
    rcases h with rfl | rfl
    · exact base
    · obtain ⟨r, r', h1, h2, h3⟩ := tx_thirteen (n := n) (e := e)
      simp only [List.nil_append, dueL]
      have c1 : ¬ (1 < (13 : Int) ∧ (13 : Int) < 3 + (d : Int)) := by omega
      have c2 : ¬ (5 < (13 : Int) ∧ (13 : Int) < 6 + (d : Int)) := by omega
      simp only [if_neg c1, if_neg c2]
      refine .inl (inl_marks _) ?_
      split
      · exact .nil
      · show Tx e (flagE e n) (pieL 13 false n e ++ repL [34] (0 / 2)) (pieL 13 false (n + 1) e ++ repL [34] (0 / 2))
        rw [h1, h2]
        simpa [repL] using h3
  | (k, b) :: ps, hk, qs, h, m, hd => by
    have h1 := hk _ (List.mem_cons_self ..)
    have h2 := fun q hq => hk q (List.mem_cons_of_mem _ hq)
    dsimp only at h1
    have step : ∀ qs', (qs' = ps ∨ qs' = ps ++ [(13, false)]) → Tx e (flagE e n) (dueL d n e m ((k, b) :: qs')) (dueL d (n + 1) e m ((k, b) :: qs')) := by
      intro qs' hq
      simp only [dueL]
      by_cases c1 : 1 < k ∧ k < 3 + (d : Int)
      · rw [if_pos c1, if_pos c1]
        exact tx_due he hn ps h2 qs' hq (m + 1) hd
      · rw [if_neg c1, if_neg c1]
        by_cases c2 : 5 < k ∧ k < 6 + (d : Int)
        · rw [if_pos c2, if_pos c2]
          exact tx_due he hn ps h2 qs' hq m hd
        · rw [if_neg c2, if_neg c2]
          refine .inl (inl_marks _) ?_
          split
          · exact .nil
          · exact tx_piece he hn h1.1 h1.2 (tx_due he hn ps h2 qs' hq 0 hd)
    rcases h with rfl | rfl
    · exact step ps (.inl rfl)
    · exact step (ps ++ [(13, false)]) (.inr rfl)
theorem feed_three {r : Nat} : (feedR r).cps.toList ∈ threeE := by
  unfold feedR
  split <;> decide +kernel
theorem due_dec {qs : List (Int × Bool)} {lid r₂ d j : Nat} (h : QOk qs) (hd : d ≤ j) (hj : j < 3) : decS (S (dueS qs lid d j (feedR r₂).cps.toList)) (feedR r₂) = S (dueS qs lid d (j + 1) (feedR r₂).cps.toList) := by
  obtain ⟨ps, h1, _, h3⟩ := h
  have he : S (feedR r₂).cps.toList = feedR r₂ := S_cps _
  conv => lhs; arg 2; rw [← he]
  unfold dueS
  split
  · rfl
  · exact tx_dec feed_three (tx_due feed_three hj ps h3 qs h1 0 (by omega))
/-- a code and its blank, then the header -/
theorem inl_head {r lid : Nat} (hl : lid ≤ 3) (hn : n < 3) (he : e ∈ threeE) : Inl e ((codeR r).cps.toList ++ 32 :: pieL (lid + 2) false n e) ((codeR r).cps.toList ++ 32 :: pieL (lid + 2) false (n + 1) e) := by
  have key : ∀ e ∈ threeE, ∀ n ∈ List.range 3, ∀ lid ∈ List.range 4, ∀ c ∈ [[49, 53, 55], [50, 52, 55], [50, 53, 48], [50, 53, 55]], inlOK (c ++ 32 :: pieL (lid + 2) false n e) (c ++ 32 :: pieL (lid + 2) false (n + 1) e) = true := by decide +kernel
  refine inl_of (key e he n (List.mem_range.mpr hn) lid (List.mem_range.mpr (by omega)) _ ?_)
  unfold codeR
  split <;> decide +kernel
theorem ans_dec {qs : List (Int × Bool)} {r lid r₂ i : Nat} (h : QOk qs) (hl : lid ≤ 3) (hi : i < 3) : decS (S (ansL (codeR r).cps.toList lid i (feedR r₂).cps.toList qs)) (feedR r₂) = S (ansL (codeR r).cps.toList lid (i + 1) (feedR r₂).cps.toList qs) := by
  obtain ⟨ps, h1, _, h3⟩ := h
  have he : S (feedR r₂).cps.toList = feedR r₂ := S_cps _
  conv => lhs; arg 2; rw [← he]
  have := tx_dec (feed_three (r := r₂)) (Tx.inl (inl_head (r := r) hl hi feed_three) (tx_pieces feed_three hi ps h3 qs h1))
  rw [List.append_assoc, List.append_assoc] at this
  exact this
theorem code_ne {r : Nat} (h : codeR r ≠ Str.ofString "257") : (codeR r).cps.toList ≠ [50, 53, 55] := by
  intro h1
  apply h
  rw [← S_cps (codeR r), h1, o257]
theorem pie0 {k : Nat} : pieL k b 0 e = pieL k b 0 [] := by
  unfold pieL
  simp
theorem ans0 {qs : List (Int × Bool)} {r lid r₂ : Nat} : codeR r ++ Str.ofString " " ++ S (pieL (lid + 2) false 0 []) ++ Txt.join (Str.ofString "") (qs.map fun q => S (pieL q.1.toNat q.2 0 [])) = S (ansL (codeR r).cps.toList lid 0 (feedR r₂).cps.toList qs) := by
  have e1 : Str.ofString " " = S [32] := by decide +kernel
  rw [e1, joinS]
  conv => lhs; rw [← S_cps (codeR r)]
  rw [S_append, S_append, S_append, List.map_map]
  congr 1
  unfold ansL
  rw [pie0 (e := (feedR r₂).cps.toList)]
  have e2 : (qs.map fun q => pieL q.1.toNat q.2 0 (feedR r₂).cps.toList) = qs.map ((fun x : Str => x.cps.toList) ∘ fun q => S (pieL q.1.toNat q.2 0 [])) := by
    apply List.map_congr_left
    intro q _
    exact pie0
  rw [e2]
  simp
theorem ans0' {qs : List (Int × Bool)} {r lid r₂ : Nat} : codeR r ++ Str.ofString " " ++ S (pieL (lid + 2) false 0 []) ++ Txt.join (Str.ofString "") (qs.map fun q => S (pieL q.1.toNat q.2 0 [])) ++ Str.ofString "o= " = S (ansL (codeR r).cps.toList lid 0 (feedR r₂).cps.toList (qs ++ [(13, false)])) := by
  have e1 : Str.ofString "o= " = S [111, 61, 32] := by decide +kernel
  rw [ans0 (r₂ := r₂), e1, S_append]
  congr 1
  have e2 : pieL 13 false 0 (feedR r₂).cps.toList = [111, 61, 32] := by simp [pieL]
  unfold ansL
  simp [e2]
/-! the reply's name -/
theorem pr_marks {c : Nat} {r : List Nat} (hc : c ≠ 34) : ∀ m, pr (repL [34] m ++ c :: r) = repL [34] (m / 2) ++ (if m % 2 = 1 then [] else pr (c :: r))
  | 0 => by simp [repL]
  | 1 => by simp [repL, pr, hc]
  | m + 2 => by
    have e1 : repL [34] (m + 2) = 34 :: 34 :: repL [34] m := by simp [repL, List.replicate_succ]
    have e2 : repL [34] ((m + 2) / 2) = 34 :: repL [34] (m / 2) := by
      rw [show (m + 2) / 2 = m / 2 + 1 by omega]
      simp [repL, List.replicate_succ]
    rw [e1, e2, show (m + 2) % 2 = m % 2 by omega]
    show pr (34 :: 34 :: (repL [34] m ++ c :: r)) = _
    rw [pr, if_pos rfl, if_pos rfl, pr_marks hc m]
    rfl
theorem pr_all : ∀ m, pr (repL [34] m) = repL [34] (m / 2)
  | 0 => rfl
  | 1 => by simp [repL, pr]
  | m + 2 => by
    have e1 : repL [34] (m + 2) = 34 :: 34 :: repL [34] m := by simp [repL, List.replicate_succ]
    have e2 : repL [34] ((m + 2) / 2) = 34 :: repL [34] (m / 2) := by
      rw [show (m + 2) / 2 = m / 2 + 1 by omega]
      simp [repL, List.replicate_succ]
    rw [e1, e2, pr, if_pos rfl, if_pos rfl, pr_all m]
theorem pr_plain : ∀ (p r : List Nat), (∀ c ∈ p, c ≠ 34) → pr (p ++ r) = p ++ pr r
  | [], _, _ => rfl
  | c :: q, r, h => by
    show pr (c :: (q ++ r)) = _
    rw [pr_lit (h c (List.mem_cons_self ..)), pr_plain q r fun d hd => h d (List.mem_cons_of_mem _ hd)]
    rfl
theorem piece_plain : ∀ e ∈ threeE, ∀ d ∈ List.range 4, ∀ b ∈ [true, false], ∀ k ∈ List.range 14, (if 1 < k ∧ k < 3 + d then pieL k b d e == [34] else if 5 < k ∧ k < 6 + d then pieL k b d e == [] else (!(pieL k b d e).isEmpty && (pieL k b d e).all (· != 34))) = true := by
  decide +kernel
theorem par_due (he : e ∈ threeE) (hd : d ≤ 3) : ∀ qs : List (Int × Bool), (∀ q ∈ qs, 0 ≤ q.1 ∧ q.1 ≤ 13) → ∀ m, pr (repL [34] m ++ (qs.map fun q => pieL q.1.toNat q.2 d e).flatten) = dueL d d e m qs
  | [], _, m => by
    show pr (repL [34] m ++ []) = _
    rw [List.append_nil, pr_all]
    rfl
  | (k, b) :: qs, hk, m => by
    have h1 := hk _ (List.mem_cons_self ..)
    have h2 := fun q hq => hk q (List.mem_cons_of_mem _ hq)
    dsimp only at h1
    have hp := piece_plain e he d (List.mem_range.mpr (by omega)) b (by cases b <;> simp) k.toNat (List.mem_range.mpr (by omega))
    simp only [List.map_cons, List.flatten_cons, dueL]
    by_cases c1 : 1 < k ∧ k < 3 + (d : Int)
    · rw [if_pos (by omega)] at hp
      rw [if_pos c1, eq_of_beq hp, ← par_due he hd qs h2 (m + 1)]
      congr 1
      have e1 : repL [34] (m + 1) = repL [34] m ++ [34] := by
        simp only [repL]
        rw [List.replicate_succ']
        simp
      rw [e1]
      simp
    · rw [if_neg (by omega)] at hp
      rw [if_neg c1]
      by_cases c2 : 5 < k ∧ k < 6 + (d : Int)
      · rw [if_pos (by omega)] at hp
        rw [if_pos c2, eq_of_beq hp, ← par_due he hd qs h2 m]
        rfl
      · rw [if_neg (by omega)] at hp
        rw [if_neg c2, ← par_due he hd qs h2 0]
        rw [Bool.and_eq_true, List.all_eq_true] at hp
        obtain ⟨hp1, hp2⟩ := hp
        have hp3 : ∀ c ∈ pieL k.toNat b d e, c ≠ 34 := fun c hc => by simpa using hp2 c hc
        cases hq : pieL k.toNat b d e with
        | nil => rw [hq] at hp1; simp at hp1
        | cons c q =>
          rw [hq] at hp3
          show pr (repL [34] m ++ (c :: (q ++ _))) = _
          rw [pr_marks (hp3 c (List.mem_cons_self ..))]
          congr 1
          split
          · rfl
          · show pr ((c :: q) ++ _) = _
            rw [pr_plain _ _ hp3]
            rfl
theorem ans_par {qs : List (Int × Bool)} {lid r₂ i : Nat} (h : QOk qs) (hl : lid ≤ 3) (hi : i ≤ 3) : parS (S (ansL [50, 53, 55] lid i (feedR r₂).cps.toList qs)) = S (dueS qs lid i i (feedR r₂).cps.toList) := by
  have e1 : ∀ t : List Nat, (S t).cps.toList = t := fun _ => rfl
  have hh : ∀ e ∈ threeE, ∀ n ∈ List.range 4, ∀ lid ∈ List.range 4, (if lid ≤ n then pieL (lid + 2) false n e == [34] else (pieL (lid + 2) false n e).head? == some 61) = true := by decide +kernel
  have hp := hh (feedR r₂).cps.toList feed_three i (List.mem_range.mpr (by omega)) lid (List.mem_range.mpr (by omega))
  unfold parS dueS
  rw [e1]
  by_cases c : lid ≤ i
  · rw [if_pos c] at hp
    rw [if_neg (show ¬ i < lid by omega)]
    have e2 : ansL [50, 53, 55] lid i (feedR r₂).cps.toList qs = 50 :: 53 :: 55 :: 32 :: 34 :: (qs.map fun q => pieL q.1.toNat q.2 i (feedR r₂).cps.toList).flatten := by
      unfold ansL
      rw [eq_of_beq hp]
      rfl
    rw [e2]
    simp only [List.drop_succ_cons, List.drop_zero, List.take_succ_cons, List.take_zero, if_true]
    have := par_due (d := i) (feed_three (r := r₂)) hi qs h.k 0
    simp only [repL, List.replicate_zero, List.flatten_nil, List.nil_append] at this
    rw [this]
  · rw [if_neg c] at hp
    rw [if_pos (show i < lid by omega)]
    cases hq : pieL (lid + 2) false i (feedR r₂).cps.toList with
    | nil => rw [hq] at hp; simp at hp
    | cons a q =>
      rw [hq] at hp
      have ha : a = 61 := by simpa using hp
      have e2 : ansL [50, 53, 55] lid i (feedR r₂).cps.toList qs = 50 :: 53 :: 55 :: 32 :: 61 :: (q ++ (qs.map fun q => pieL q.1.toNat q.2 i (feedR r₂).cps.toList).flatten) := by
        unfold ansL
        rw [hq, ha]
        rfl
      rw [e2]
      simp
end
end Mine
end P4
section C12
open PySem PySem.W PyProof.Rows
set_option Elab.async false
set_option maxRecDepth 100000
namespace Mine
theorem c_toldV (w : World) (mean : ExcName → Option Value) (mg mb : Str → Option Value) (news : List (Addr × Obj)) (x y : Str) (t : Tok) (hx : x.length ≤ 1000) (hx5 : 5 ≤ x.length) (hp : x.cps.toList.take 3 = [50, 53, 55]) (hy : parS x = y) :
    Cl 2 w mean mg mb 124 news [.str x t] (fun t => .str y t) := by
  subst hy
  exact c_told w mean mg mb news x t hx hx5 hp
theorem c_holdsV (w : World) (mean : ExcName → Option Value) (mg mb : Str → Option Value) (news : List (Addr × Obj)) (y : Str) (l : Addr) (vs : List Value) (nn : Nat) (qs : List (Int × Bool)) (o d : Nat) (z : Int) (r : Nat) (t u v x : Tok)
    (hl : (l, listOf vs.toArray nn) ∈ news) (hq : PcsIn news vs qs) (hQ : QOk qs) (ho : o ≤ 3) (hd : d ≤ 3) (hy : y = S (dueS qs o d d (feedR r).cps.toList)) (hz : z = (d : Int)) :
    Cl 3 w mean mg mb 131 news [.str y t, .ref l, .int (o : Int) u, .int z v, .str (feedR r) x] (fun _ => .bool true) := by
  subst hy hz
  exact c_holds w mean mg mb news l vs nn qs o d (feedR r) t u v x hl hq hQ.k (Nat.le_trans hQ.len (by decide)) ho hd feed_len.1 feed_len.2 (fun j h1 h2 => due_dec hQ h1 h2) (fun j => dueS_len hQ (by exact feed_len.1) o d j)
theorem cl_use0 {lv : Nat} {w : World} {mean : ExcName → Option Value} {mg mb : Str → Option Value} {f : Addr} {news : List (Addr × Obj)} {vs : List Value} {R : Tok → Value} (C : Cl0 lv w mean mg mb f news vs R)
    {dp un : Nat} {gd : Option (List Code)} {cn : Str} {cs : Scope} {a : Addr} {ccd : Value} {A₀ : Around} {h₀ : Heap} {L : Addr} {m : Str → Option Value} {s : Shared} {Q E : Value → Shared → Prop}
    (B : Below A₀ h₀ [] h₀) (F : Fr h₀ L s.heap m) (X : (hd.heap_39 w.params).In h₀) (N : News h₀ L s.heap news) (T : Top hd.view_39 LO mean mg mb h₀) (hk : cs.kind = .function) (hd : dp + lv < recursionLimit) (hu : un + 8 * lv < cLine)
    (hret : ∀ (t : Tok) (h' : Heap) (tk' : Nat), Fr h₀ L h' m → News h₀ L h' news → Q (R t) { s with heap := h', toks := tk' }) :
    wpAny (model PySem.Challenge.rw_rw0021_01.row.prog w) { handled := none, depth := dp, frames := some [envOf cn cs L a ccd], guards := gd, units := un } (call (.ref f) vs) Q E s :=
  C dp un gd cn cs a ccd A₀ h₀ L m s Q E B F X N T hk hd hu hret
theorem pcs_of {h₀ h : Heap} {L : Addr} {nw nw0 : List (Addr × Obj)} {ys : List Value} {qs : List (Int × Bool)} (_ : News h₀ L h nw) (hq : PcsIn nw0 ys qs) (hs : ∀ p ∈ nw0, p ∈ nw) : PcsIn nw ys qs := hq.mono hs
theorem pcs_odd {h₀ h : Heap} {L T : Addr} {t : Tok} {nn : Nat} {nw nw0 : List (Addr × Obj)} {ys : List Value} {qs : List (Int × Bool)} (_ : News h₀ L h nw) (hq : PcsIn nw0 ys qs) (hs : ∀ p ∈ nw0, p ∈ nw)
    (hm : (T, ({ cls := .type "tuple", data := .seq #[Value.int 13 t, Value.bool false] nn } : Obj)) ∈ nw) : PcsIn nw (ys ++ [.ref T]) (qs ++ [(13, false)]) := (hq.mono hs).snoc hm
theorem ans_take {c e : List Nat} {lid n : Nat} {qs : List (Int × Bool)} (hc : c.length = 3) : (S (ansL c lid n e qs)).cps.toList.take 3 = c := by
  simp [S, ansL, hc]
theorem cne1 {a b : Str} (h : a ≠ b) (h1 : (a == b) = true) : False := h (eq_of_beq h1)
theorem cne2 {a b : Str} (h : a ≠ b) (h1 : (a != b) = false) : False := h (by simpa using h1)
end Mine
end C12
section C11
open PySem PySem.W PyProof.Rows
set_option Elab.async false
set_option maxRecDepth 100000
set_option pp.maxSteps 3000
set_option maxHeartbeats 8000000
namespace Mine
section
local macro_rules | `(tactic| walk_at "call ref") => `(tactic| refine halt ?_)
local macro_rules | `(tactic| walk_at "subscriptTail") => `(tactic| ((with_reducible show wpAny _ _ (subscriptTail _ _ (Value.ref _) (Value.int (Int.fmod _ _) _)) _ _ _); refine halt ?_))
local macro_rules | `(tactic| walk_at "execs cons") => `(tactic| (with_reducible refine gen_toks3 ?_; intro tk))
local macro_rules | `(tactic| walk_at "CompSrc") => `(tactic| refine halt ?_)
local macro_rules | `(tactic| walk_at "CompEnd") => `(tactic| refine halt ?_)
local macro_rules | `(tactic| walk_at "SrcLP") => `(tactic| refine halt ?_)
local macro_rules | `(tactic| walk_at "call builtin:str.join") => `(tactic| refine halt ?_)
local macro_rules | `(tactic| walk_at "pyIter ref") => `(tactic| refine halt ?_)
theorem law_holds : PySem.Challenge.rw_rw0021_01.Holds := by
  refine hd ⟨hl, ?_⟩
  k_go0
  all_goals (try k_fold)
  rename_i wW s₀ s₁ mg mb G Y fa o pm doc kV ho hg KX X V GL T B TE TW w9 w8 M w7 w6 hcd ns hs hlay0 hL0 hr0 hl2 w4 w3 lA vs wl hL ra w1 r0 hI hr hc1 hc2 K0 hD h1 F N0
  clear GL V X Y B TE TW M hcd hs hlay0 hL0 hr0 hl2 ra w1 r0 hr hc2 hD
  have hlen : ns.length ≤ 63 := by omega
  have K1 : Below callerA s₁.heap [] s₁.heap := K0
  clear K0
  clear hc1
  obtain ⟨u0, F00⟩ := fr_pack [(Str.ofString "script", Value.ref lA)] F (List.forall_mem_cons.mpr ⟨rfl, List.forall_mem_nil _⟩)
  clear F
  dsimp only [kstB] at F00
  k_steps
  refine halted ?_
  with_reducible rename News _ _ _ _ => N1
  refine item_str (x := codeR (ns.length % 16)) N1 (by k_memK) (modn 16 ns.length).1 (modn 16 ns.length).2 ?hx ?_
  case hx =>
    rw [show (((ns.length : Int).fmod 16).toNat) = ns.length % 16 from modn_eq 16 ns.length]
    have hr := Nat.mod_lt ns.length (show 16 > 0 by decide)
    generalize ns.length % 16 = r at hr ⊢
    have h9 : r = 0 ∨ r = 1 ∨ r = 2 ∨ r = 3 ∨ r = 4 ∨ r = 5 ∨ r = 6 ∨ r = 7 ∨ r = 8 ∨ r = 9 ∨ r = 10 ∨ r = 11 ∨ r = 12 ∨ r = 13 ∨ r = 14 ∨ r = 15 := by omega
    rcases h9 with rfl | rfl | rfl | rfl | rfl | rfl | rfl | rfl | rfl | rfl | rfl | rfl | rfl | rfl | rfl | rfl <;> exact ⟨_, rfl⟩
  intro tk1
  (try dsimp only)
  k_steps
  refine halted ?_
  with_reducible rename News _ _ _ _ => N2
  refine item_str (x := feedR (ns.length % 3)) N2 (by k_memK) (modn 3 ns.length).1 (modn 3 ns.length).2 ?hx2 ?_
  case hx2 =>
    rw [show (((ns.length : Int).fmod 3).toNat) = ns.length % 3 from modn_eq 3 ns.length]
    have hr := Nat.mod_lt ns.length (show 3 > 0 by decide)
    generalize ns.length % 3 = r at hr ⊢
    have h9 : r = 0 ∨ r = 1 ∨ r = 2 := by omega
    rcases h9 with rfl | rfl | rfl <;> exact ⟨_, rfl⟩
  intro tk2
  (try dsimp only)
  have hcl : (codeR (ns.length % 16)).length = 3 := code_len
  have hfl := (feed_len (r := ns.length % 3)).1
  have hf0 := (feed_len (r := ns.length % 3)).2
  k_steps
  refine halted ?_
  with_reducible rename Fr _ _ _ _ => F2
  with_reducible rename News _ _ _ _ => N3
  with_reducible rename IntsAre _ (List.take _ _) => I2
  have N4 := news_head N3
  have I2l := I2.length
  refine lc_pcs (fun k => (k.fmod 13, (k.fdiv 13).fmod 2 == 1)) I2 rfl F2 N4 (List.mem_cons_self ..) (by omega) ?turn ?fin
  case turn =>
    intro g' k t I oI C oC D m₂ ys h tk nw E' hk hC hx F5 N5 off ne hsub
    clear F2 N3 N4
    (try dsimp only)
    k_steps
    refine halted ?_
    with_reducible rename Fr _ _ _ _ => F6
    with_reducible rename News _ _ _ _ => N6
    with_reducible rename _ ∧ _ ∧ _ ∧ AllLt _ _ => A6
    exact LCg.CompEnd.intro F6 N6 (_ :: nw) four_sub (off3_new A6 off) (.inr ⟨_, List.mem_cons_of_mem _ (hsub _ (List.mem_cons_self ..)), rfl, _, rfl⟩) ⟨fun p hp => List.mem_cons_of_mem _ hp, _, _, _, rfl, List.mem_cons_self ..⟩
  case fin =>
    intro g' ys nw hq hsub
    intro D9 h9 tk9 F9 N9 o9
    obtain ⟨u1, F10⟩ := fr_pack [(Str.ofString "code", Value.str (codeR (ns.length % 16)) tk1), (Str.ofString "lid", Value.int _ _), (Str.ofString "feed", Value.str (feedR (ns.length % 3)) tk2), (Str.ofString "drawn", Value.ref D9), (Str.ofString "script", Value.ref lA)] F9 (List.forall_mem_cons.mpr ⟨rfl, List.forall_mem_cons.mpr ⟨rfl, List.forall_mem_cons.mpr ⟨rfl, List.forall_mem_cons.mpr ⟨rfl, List.forall_mem_cons.mpr ⟨rfl, List.forall_mem_nil _⟩⟩⟩⟩⟩)
    dsimp only [kstB] at F10
    clear F9 F2 N3 N4
    obtain ⟨lid, hlid3, hlid, hlidn⟩ := lid_ex ns.length
    rw [hlid] at F10
    (try dsimp only)
    k_steps
    refine halted ?_
    k_dflt (refine' cl_use (c_buriedZ wW _ _ _ _ _ (lid : Int) false _ _ (by omega) (by omega) (by decide) (by decide) (.inl (by decide)) (lb1 hlid3)) ?k1 ?k2 ?k3 ?k4 ?k5 ?kK ?kd ?ku ?_; (case k1 => k_asm); (case k2 => k_asm); (case k3 => k_asm); (case k4 => k_asm); (case k5 => k_asm); (case kK => exact rfl); (case kd => ktr_room); (case ku => ktr_units))
    intro t10 h10 tk10 F11 N11
    (try dsimp only)
    have hw10 : (S (pieL (lid + 2) false 0 [])).length ≤ 10 := by rw [S_len]; exact pieL_len (k := ((lid : Int) + 2)) (e := []) (by omega) (by decide)
    k_steps
    refine halted ?_
    with_reducible rename Fr _ _ _ _ => F12
    with_reducible rename News _ _ _ _ => N12
    have hqk : ∀ q ∈ List.map (fun k : Int => (k.fmod 13, (k.fdiv 13).fmod 2 == 1)) (List.take 10 ns), 0 ≤ q.1 ∧ q.1 ≤ 12 := drawn_k
    have hql : (List.map (fun k : Int => (k.fmod 13, (k.fdiv 13).fmod 2 == 1)) (List.take 10 ns)).length ≤ 10 := by rw [List.length_map, List.length_take]; omega
    have hqv := hq.len
    have hq2 := hq.mono (b := (D9, LCg.lst ys) :: nw) (fun p hp => List.mem_cons_of_mem _ hp)
    clear hsub hq hlid
    generalize List.map (fun k : Int => (k.fmod 13, (k.fdiv 13).fmod 2 == 1)) (List.take 10 ns) = qs at *
    refine lc_strs (fun q => S (pieL q.1.toNat q.2 0 [])) hq2 rfl F12 N12 (List.mem_cons_self ..) (by omega) ?turn ?fin
    case turn =>
      intro g' k b t I oI C oC D m₂ ys h tk E' hk hC hx hx2 F5 N5 off ne
      have hkk := hqk _ hk
      dsimp only at hkk
      clear F12 N12
      (try dsimp only)
      k_steps
      refine halted ?_
      k_dflt (refine' cl_use (c_laid wW _ _ _ _ k b _ hkk.1 (by omega)) ?k1 ?k2 ?k3 ?k4 ?k5 ?kK ?kd ?ku ?_; (case k1 => k_asm); (case k2 => k_asm); (case k3 => k_asm); (case k4 => k_asm); (case k5 => k_asm); (case kK => exact rfl); (case kd => ktr_room); (case ku => ktr_units))
      intro t9 h9 tk9 F9 N9
      (try dsimp only)
      k_steps
      refine halted ?_
      exact LCg.CompEnd.intro F9 N9 (_ :: nw) (fun _ hp => hp) off (.inr ⟨_, List.mem_cons_self .., rfl, _, rfl⟩) ⟨rfl, _, rfl⟩
    case fin =>
      intro g' ys1 hq1
      (try dsimp only)
      k_steps
      refine halted ?_
      with_reducible rename Fr _ _ _ _ => F13
      with_reducible rename News _ _ _ _ => N13
      clear F12 N12
      refine KT.join_B (l := qs) (g := fun q => S (pieL q.1.toNat q.2 0 [])) 10 ⟨_, (N13 _ (List.mem_cons_self ..)).1, rfl, _, rfl⟩ hq1 ?hB (by omega) (by decide) ?_
      case hB =>
        intro q hq
        rw [S_len]
        exact pieL_len (k := q.1) (Int.le_trans (hqk q hq).2 (by decide)) (by decide)
      intro t11 k11
      have hj := join_lenS (qs := qs) hql (fun q hq => ⟨(hqk q hq).1, Int.le_trans (hqk q hq).2 (by decide)⟩)
      (try dsimp only)
      k_steps
      · refine halted ?_
        with_reducible rename IsRange _ _ _ _ _ _ _ _ => R2
        with_reducible rename Fr _ _ _ _ => F20
        with_reducible rename News _ _ _ _ => N20
        have hQ := QOk.odd hql hqk
        have hans := ans0' (qs := qs) (lid := lid) (r := ns.length % 16) (r₂ := ns.length % 3)
        have hP := pcs_odd N20 hq2 (fun p hp => .tail _ (.tail _ (.tail _ (.tail _ hp)))) (.tail _ (.tail _ (.head _)))
        by_cases hc : codeR (ns.length % 16) = Str.ofString "257"
        ·
          refine lp_range (σ := Str × Tok) (fun c => [(Str.ofString "answer", Value.str c.1 c.2), (Str.ofString "code", Value.str (Str.ofString "257") tk1), (Str.ofString "lid", Value.int (lid : Int) _), (Str.ofString "feed", Value.str (feedR (ns.length % 3)) tk2), (Str.ofString "drawn", Value.ref _)])
            (fun i c => i ≤ 3 → c.1 = S (ansL (codeR (ns.length % 16)).cps.toList lid i (feedR (ns.length % 3)).cps.toList (qs ++ [(13, false)]))) (_, _) rfl R2 (small_one (by decide) (by decide) (by decide) (by decide)) F20 N20 (List.forall_mem_cons.mpr ⟨rfl, List.forall_mem_cons.mpr ⟨congrArg (fun z => some (Value.str z tk1)) hc, List.forall_mem_cons.mpr ⟨rfl, List.forall_mem_cons.mpr ⟨rfl, List.forall_mem_cons.mpr ⟨rfl, List.forall_mem_nil _⟩⟩⟩⟩⟩) ?hp ?turn ?done
          case hp => exact fun _ => hans
          case done =>
            rintro ⟨y, ty⟩ u2 h2 tk22 hy F3 N3
            dsimp only [kstB] at F3
            clear F20 N20 R2
            k_steps
          case turn =>
            rintro ⟨y, ty⟩ i k tk3 u2 h2 tk22 own hi hk3 hy F3 N3
            have hi4 : i < 4 := hi
            have hki : k = (i : Int) := by omega
            dsimp only at hy
            have hy2 := hy (by omega)
            have hly : y.length ≤ 1000 := by rw [hy2, S_len]; exact Nat.le_trans (ans_len hQ code_len hlid3 hfl) (by decide)
            have hly5 : 5 ≤ y.length := by rw [hy2, S_len]; exact ans_lo code_len hlid3
            dsimp only [kstB] at F3
            clear F20 N20 R2
            k_steps
            refine halted ?_
            have htk : y.cps.toList.take 3 = [50, 53, 55] := by rw [hy2, ans_take code_len, hc, o257]; rfl
            have hpar : parS y = S (dueS (qs ++ [(13, false)]) lid i i (feedR (ns.length % 3)).cps.toList) := by rw [hy2, hc, o257]; exact ans_par hQ hlid3 (by omega)
            k_dflt (refine' cl_use (c_toldV wW _ _ _ _ y _ _ hly hly5 htk hpar) ?k1 ?k2 ?k3 ?k4 ?k5 ?kK ?kd ?ku ?_; (case k1 => k_asm); (case k2 => k_asm); (case k3 => k_asm); (case k4 => k_asm); (case k5 => k_asm); (case kK => exact rfl); (case kd => ktr_room); (case ku => ktr_units))
            intro t19 h19 tk19 F19 N19
            (try dsimp only)
            k_steps
            refine halted ?_
            k_dflt (refine' cl_use (c_holdsV wW _ _ _ _ _ _ _ _ (qs ++ [(13, false)]) lid i k (ns.length % 3) _ _ _ _ (List.mem_append_left _ (.head _)) (hP.mono fun p hp => List.mem_append_left _ hp) hQ hlid3 (by omega) rfl hki) ?k1 ?k2 ?k3 ?k4 ?k5 ?kK ?kd ?ku ?_; (case k1 => k_asm); (case k2 => k_asm); (case k3 => k_asm); (case k4 => k_asm); (case k5 => k_asm); (case kK => exact rfl); (case kd => ktr_room); (case ku => ktr_units))
            intro t29 h29 tk29 F29 N29
            (try dsimp only)
            k_steps
            refine halted ?_
            k_dflt (refine' cl_use (c_decode wW _ _ _ _ y (feedR (ns.length % 3)) _ _ hly hfl hf0) ?k1 ?k2 ?k3 ?k4 ?k5 ?kK ?kd ?ku ?_; (case k1 => k_asm); (case k2 => k_asm); (case k3 => k_asm); (case k4 => k_asm); (case k5 => k_asm); (case kK => exact rfl); (case kd => ktr_room); (case ku => ktr_units))
            intro t39 h39 tk39 F39 N39
            (try dsimp only)
            k_steps
            with_reducible rename Fr _ _ _ _ => F40
            with_reducible rename News _ _ _ _ => N40
            exact lpPost_next F40 N40 (fun p hp => hp) ⟨(_, _), fun hi9 => by dsimp only; rw [hy2]; exact ans_dec hQ hlid3 (by omega), List.forall_mem_cons.mpr ⟨rfl, List.forall_mem_cons.mpr ⟨rfl, List.forall_mem_cons.mpr ⟨rfl, List.forall_mem_cons.mpr ⟨rfl, List.forall_mem_cons.mpr ⟨rfl, List.forall_mem_nil _⟩⟩⟩⟩⟩⟩
        ·
          refine lp_range (σ := Str × Tok) (fun c => [(Str.ofString "answer", Value.str c.1 c.2), (Str.ofString "code", Value.str (codeR (ns.length % 16)) tk1), (Str.ofString "lid", Value.int (lid : Int) _), (Str.ofString "feed", Value.str (feedR (ns.length % 3)) tk2), (Str.ofString "drawn", Value.ref _)])
            (fun i c => i ≤ 3 → c.1 = S (ansL (codeR (ns.length % 16)).cps.toList lid i (feedR (ns.length % 3)).cps.toList (qs ++ [(13, false)]))) (_, _) rfl R2 (small_one (by decide) (by decide) (by decide) (by decide)) F20 N20 (List.forall_mem_cons.mpr ⟨rfl, List.forall_mem_cons.mpr ⟨rfl, List.forall_mem_cons.mpr ⟨rfl, List.forall_mem_cons.mpr ⟨rfl, List.forall_mem_cons.mpr ⟨rfl, List.forall_mem_nil _⟩⟩⟩⟩⟩) ?hp ?turn ?done
          case hp => exact fun _ => hans
          case done =>
            rintro ⟨y, ty⟩ u2 h2 tk22 hy F3 N3
            dsimp only [kstB] at F3
            clear F20 N20 R2
            k_steps
          case turn =>
            rintro ⟨y, ty⟩ i k tk3 u2 h2 tk22 own hi hk3 hy F3 N3
            have hi4 : i < 4 := hi
            have hki : k = (i : Int) := by omega
            dsimp only at hy
            have hy2 := hy (by omega)
            have hly : y.length ≤ 1000 := by rw [hy2, S_len]; exact Nat.le_trans (ans_len hQ code_len hlid3 hfl) (by decide)
            have hly5 : 5 ≤ y.length := by rw [hy2, S_len]; exact ans_lo code_len hlid3
            dsimp only [kstB] at F3
            clear F20 N20 R2
            k_steps
            refine halted ?_
            have htk : y.cps.toList.take 3 ≠ [50, 53, 55] := by rw [hy2, ans_take code_len]; exact code_ne hc
            k_dflt (refine' cl_use0 (c_told0 wW _ _ _ _ y _ hly hly5 htk) ?k1 ?k2 ?k3 ?k4 ?k5 ?kK ?kd ?ku ?_; (case k1 => k_asm); (case k2 => k_asm); (case k3 => k_asm); (case k4 => k_asm); (case k5 => k_asm); (case kK => exact rfl); (case kd => ktr_room); (case ku => ktr_units))
            intro t19 h19 tk19 F19 N19
            (try dsimp only)
            k_steps
            all_goals (first | exact (cne1 hc (by assumption)).elim | exact (cne2 hc (by assumption)).elim | skip)
            refine halted ?_
            k_dflt (refine' cl_use (c_decode wW _ _ _ _ y (feedR (ns.length % 3)) _ _ hly hfl hf0) ?k1 ?k2 ?k3 ?k4 ?k5 ?kK ?kd ?ku ?_; (case k1 => k_asm); (case k2 => k_asm); (case k3 => k_asm); (case k4 => k_asm); (case k5 => k_asm); (case kK => exact rfl); (case kd => ktr_room); (case ku => ktr_units))
            intro t39 h39 tk39 F39 N39
            (try dsimp only)
            k_steps
            with_reducible rename Fr _ _ _ _ => F40
            with_reducible rename News _ _ _ _ => N40
            exact lpPost_next F40 N40 (fun p hp => hp) ⟨(_, _), fun hi9 => by dsimp only; rw [hy2]; exact ans_dec hQ hlid3 (by omega), List.forall_mem_cons.mpr ⟨rfl, List.forall_mem_cons.mpr ⟨rfl, List.forall_mem_cons.mpr ⟨rfl, List.forall_mem_cons.mpr ⟨rfl, List.forall_mem_cons.mpr ⟨rfl, List.forall_mem_nil _⟩⟩⟩⟩⟩⟩
      · refine halted ?_
        with_reducible rename IsRange _ _ _ _ _ _ _ _ => R2
        with_reducible rename Fr _ _ _ _ => F20
        with_reducible rename News _ _ _ _ => N20
        have hQ := QOk.even hql hqk
        have hans := ans0 (qs := qs) (lid := lid) (r := ns.length % 16) (r₂ := ns.length % 3)
        have hP := pcs_of N20 hq2 (fun p hp => .tail _ hp)
        by_cases hc : codeR (ns.length % 16) = Str.ofString "257"
        ·
          refine lp_range (σ := Str × Tok) (fun c => [(Str.ofString "answer", Value.str c.1 c.2), (Str.ofString "code", Value.str (Str.ofString "257") tk1), (Str.ofString "lid", Value.int (lid : Int) _), (Str.ofString "feed", Value.str (feedR (ns.length % 3)) tk2), (Str.ofString "drawn", Value.ref _)])
            (fun i c => i ≤ 3 → c.1 = S (ansL (codeR (ns.length % 16)).cps.toList lid i (feedR (ns.length % 3)).cps.toList qs)) (_, _) rfl R2 (small_one (by decide) (by decide) (by decide) (by decide)) F20 N20 (List.forall_mem_cons.mpr ⟨rfl, List.forall_mem_cons.mpr ⟨congrArg (fun z => some (Value.str z tk1)) hc, List.forall_mem_cons.mpr ⟨rfl, List.forall_mem_cons.mpr ⟨rfl, List.forall_mem_cons.mpr ⟨rfl, List.forall_mem_nil _⟩⟩⟩⟩⟩) ?hp ?turn ?done
          case hp => exact fun _ => hans
          case done =>
            rintro ⟨y, ty⟩ u2 h2 tk22 hy F3 N3
            dsimp only [kstB] at F3
            clear F20 N20 R2
            k_steps
          case turn =>
            rintro ⟨y, ty⟩ i k tk3 u2 h2 tk22 own hi hk3 hy F3 N3
            have hi4 : i < 4 := hi
            have hki : k = (i : Int) := by omega
            dsimp only at hy
            have hy2 := hy (by omega)
            have hly : y.length ≤ 1000 := by rw [hy2, S_len]; exact Nat.le_trans (ans_len hQ code_len hlid3 hfl) (by decide)
            have hly5 : 5 ≤ y.length := by rw [hy2, S_len]; exact ans_lo code_len hlid3
            dsimp only [kstB] at F3
            clear F20 N20 R2
            k_steps
            refine halted ?_
            have htk : y.cps.toList.take 3 = [50, 53, 55] := by rw [hy2, ans_take code_len, hc, o257]; rfl
            have hpar : parS y = S (dueS qs lid i i (feedR (ns.length % 3)).cps.toList) := by rw [hy2, hc, o257]; exact ans_par hQ hlid3 (by omega)
            k_dflt (refine' cl_use (c_toldV wW _ _ _ _ y _ _ hly hly5 htk hpar) ?k1 ?k2 ?k3 ?k4 ?k5 ?kK ?kd ?ku ?_; (case k1 => k_asm); (case k2 => k_asm); (case k3 => k_asm); (case k4 => k_asm); (case k5 => k_asm); (case kK => exact rfl); (case kd => ktr_room); (case ku => ktr_units))
            intro t19 h19 tk19 F19 N19
            (try dsimp only)
            k_steps
            refine halted ?_
            k_dflt (refine' cl_use (c_holdsV wW _ _ _ _ _ _ _ _ qs lid i k (ns.length % 3) _ _ _ _ (List.mem_append_left _ (.tail _ (.head _))) (hP.mono fun p hp => List.mem_append_left _ hp) hQ hlid3 (by omega) rfl hki) ?k1 ?k2 ?k3 ?k4 ?k5 ?kK ?kd ?ku ?_; (case k1 => k_asm); (case k2 => k_asm); (case k3 => k_asm); (case k4 => k_asm); (case k5 => k_asm); (case kK => exact rfl); (case kd => ktr_room); (case ku => ktr_units))
            intro t29 h29 tk29 F29 N29
            (try dsimp only)
            k_steps
            refine halted ?_
            k_dflt (refine' cl_use (c_decode wW _ _ _ _ y (feedR (ns.length % 3)) _ _ hly hfl hf0) ?k1 ?k2 ?k3 ?k4 ?k5 ?kK ?kd ?ku ?_; (case k1 => k_asm); (case k2 => k_asm); (case k3 => k_asm); (case k4 => k_asm); (case k5 => k_asm); (case kK => exact rfl); (case kd => ktr_room); (case ku => ktr_units))
            intro t39 h39 tk39 F39 N39
            (try dsimp only)
            k_steps
            with_reducible rename Fr _ _ _ _ => F40
            with_reducible rename News _ _ _ _ => N40
            exact lpPost_next F40 N40 (fun p hp => hp) ⟨(_, _), fun hi9 => by dsimp only; rw [hy2]; exact ans_dec hQ hlid3 (by omega), List.forall_mem_cons.mpr ⟨rfl, List.forall_mem_cons.mpr ⟨rfl, List.forall_mem_cons.mpr ⟨rfl, List.forall_mem_cons.mpr ⟨rfl, List.forall_mem_cons.mpr ⟨rfl, List.forall_mem_nil _⟩⟩⟩⟩⟩⟩
        ·
          refine lp_range (σ := Str × Tok) (fun c => [(Str.ofString "answer", Value.str c.1 c.2), (Str.ofString "code", Value.str (codeR (ns.length % 16)) tk1), (Str.ofString "lid", Value.int (lid : Int) _), (Str.ofString "feed", Value.str (feedR (ns.length % 3)) tk2), (Str.ofString "drawn", Value.ref _)])
            (fun i c => i ≤ 3 → c.1 = S (ansL (codeR (ns.length % 16)).cps.toList lid i (feedR (ns.length % 3)).cps.toList qs)) (_, _) rfl R2 (small_one (by decide) (by decide) (by decide) (by decide)) F20 N20 (List.forall_mem_cons.mpr ⟨rfl, List.forall_mem_cons.mpr ⟨rfl, List.forall_mem_cons.mpr ⟨rfl, List.forall_mem_cons.mpr ⟨rfl, List.forall_mem_cons.mpr ⟨rfl, List.forall_mem_nil _⟩⟩⟩⟩⟩) ?hp ?turn ?done
          case hp => exact fun _ => hans
          case done =>
            rintro ⟨y, ty⟩ u2 h2 tk22 hy F3 N3
            dsimp only [kstB] at F3
            clear F20 N20 R2
            k_steps
          case turn =>
            rintro ⟨y, ty⟩ i k tk3 u2 h2 tk22 own hi hk3 hy F3 N3
            have hi4 : i < 4 := hi
            have hki : k = (i : Int) := by omega
            dsimp only at hy
            have hy2 := hy (by omega)
            have hly : y.length ≤ 1000 := by rw [hy2, S_len]; exact Nat.le_trans (ans_len hQ code_len hlid3 hfl) (by decide)
            have hly5 : 5 ≤ y.length := by rw [hy2, S_len]; exact ans_lo code_len hlid3
            dsimp only [kstB] at F3
            clear F20 N20 R2
            k_steps
            refine halted ?_
            have htk : y.cps.toList.take 3 ≠ [50, 53, 55] := by rw [hy2, ans_take code_len]; exact code_ne hc
            k_dflt (refine' cl_use0 (c_told0 wW _ _ _ _ y _ hly hly5 htk) ?k1 ?k2 ?k3 ?k4 ?k5 ?kK ?kd ?ku ?_; (case k1 => k_asm); (case k2 => k_asm); (case k3 => k_asm); (case k4 => k_asm); (case k5 => k_asm); (case kK => exact rfl); (case kd => ktr_room); (case ku => ktr_units))
            intro t19 h19 tk19 F19 N19
            (try dsimp only)
            k_steps
            all_goals (first | exact (cne1 hc (by assumption)).elim | exact (cne2 hc (by assumption)).elim | skip)
            refine halted ?_
            k_dflt (refine' cl_use (c_decode wW _ _ _ _ y (feedR (ns.length % 3)) _ _ hly hfl hf0) ?k1 ?k2 ?k3 ?k4 ?k5 ?kK ?kd ?ku ?_; (case k1 => k_asm); (case k2 => k_asm); (case k3 => k_asm); (case k4 => k_asm); (case k5 => k_asm); (case kK => exact rfl); (case kd => ktr_room); (case ku => ktr_units))
            intro t39 h39 tk39 F39 N39
            (try dsimp only)
            k_steps
            with_reducible rename Fr _ _ _ _ => F40
            with_reducible rename News _ _ _ _ => N40
            exact lpPost_next F40 N40 (fun p hp => hp) ⟨(_, _), fun hi9 => by dsimp only; rw [hy2]; exact ans_dec hQ hlid3 (by omega), List.forall_mem_cons.mpr ⟨rfl, List.forall_mem_cons.mpr ⟨rfl, List.forall_mem_cons.mpr ⟨rfl, List.forall_mem_cons.mpr ⟨rfl, List.forall_mem_cons.mpr ⟨rfl, List.forall_mem_nil _⟩⟩⟩⟩⟩⟩
end
end Mine
end C11
theorem PySem.Challenge.cw_rw0021_01_holds : PySem.Challenge.rw_rw0021_01.Holds :=
  Mine.law_holds
