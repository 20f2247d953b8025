import JvmDerived
import JvmDerived.Pilot.@@N@@Statement
import JvmDerived.Pilot.@@N@@Code
set_option linter.unusedVariables false
set_option linter.unusedSimpArgs false
@@BLOCK:NumsL.lean.txt@@
namespace Jvm.RoadKit
open Sem ClassFile Op Lib Jvm.Stand Jvm.Free Jvm.LawKit
section New
variable {p : Program} {l : Launch} {e : Env} {R : Room} {s : State} {m : MethodId} {args : Array Value} {below : List Frame} {meth : Method} {c : Code} {T : State} {locs : List Loc} {cells slots : Nat}
theorem retI (X : Stand p l e R s m args below meth c T locs cells slots) (hx : p.tables.exec = Jvm.exec) {pc : Nat} {Ls : Array Slot} {z : Int32} {rest : List Value} (hret : meth.sig.returnType = some .int) (hd : decode c.code pc = .ok (.ireturn, 1)) {fs : List Frame}
    (hl : ∀ (f : JFrame) (acts : List Action), f.method = m → f.locked = none → f.entered = [] → (doReturn e (T.setTop f) acts (some (.int z))).1 = T.setFrames fs) : Steps p.tables e below (T.setTop (mkF m pc Ls (.int z :: rest))) (T.setFrames fs) := by
  have hm' : T.vm.method? m = some meth := X.method'
  have hn : narrow .int (.int z) = .int z := rfl
  show Steps p.tables e below (T.setTop { method := m, pc := pc, locals := Ls, stack := _ :: rest, locked := none }) _
  jvm_step X.here [X.here.top, hx, hd, hm', hret, hn]
  first | (intro acts; rw [hl _ acts rfl rfl rfl]) | rw [hl _ _ rfl rfl rfl]
  exact Steps.refl _
end New
end Jvm.RoadKit
namespace Jvm.Pilot.@@N@@
open Jvm Jvm.ClassFile Sem Op Lib Jvm.Free Jvm.Stand Jvm.LawKit Jvm.RoadKit Bundle Jvm.Pilot.@@N@@.Jvm.D
theorem own_nz_J {x : Int64} (h : (0 : Int64) < x) : ¬ (x = (0 : Int64)) := by rintro rfl; exact absurd h (by decide)
theorem own_nz_I {x : Int32} (h : (0 : Int32) < x) : ¬ (x = (0 : Int32)) := by rintro rfl; exact absurd h (by decide)
theorem own_fld {s : State} {args : Array Value} {tt : Term} {a : Addr} {C n d : String} {k : Int32} (ev : tt.eval args s none [] s = some (.ref a)) (h : (Jvm.Cond.eq (.field tt C n d) (.int k)).value args s none s [] = some true) : Fld s s.heap a C n d (.int k) := by
  obtain ⟨u, v, hu, hv, k1, k2⟩ := cmp_v (Or.inl h)
  have hv' : v = .int k := (Option.some.inj (hv.symm.trans (Term.int_eval k)))
  subst hv'
  obtain ⟨z, rfl⟩ := k2
  have hz := gotT (Cond.eq_ints hu hv) h
  subst hz
  exact Fld.start (by rw [← fld_at ev]; exact hu)
def own_at (vs : List Int32) (j : Int32) : Int32 := vs.getD j.toNatClampNeg 0
def own_atL (vs : List Int64) (j : Int32) : Int64 := vs.getD j.toNatClampNeg 0
theorem own_getD (vs : List Int32) (j : Int32) : (vs.map Value.int).getD j.toNatClampNeg (.int (0 : Int32)) = .int (own_at vs j) := by
  unfold own_at
  generalize j.toNatClampNeg = k
  induction vs generalizing k with
  | nil => rfl
  | cons a t ih => cases k with
    | zero => rfl
    | succ k => simpa using ih k
theorem own_getDL (vs : List Int64) (j : Int32) : (vs.map Value.long).getD j.toNatClampNeg (.long (0 : Int64)) = .long (own_atL vs j) := by
  unfold own_atL
  generalize j.toNatClampNeg = k
  induction vs generalizing k with
  | nil => rfl
  | cons a t ih => cases k with
    | zero => rfl
    | succ k => simpa using ih k
theorem d1_0 : decode prog_72_method_4_code 0 = .ok (.aload_n 0, 1) := by decide +kernel
theorem d1_1 : decode prog_72_method_4_code 1 = .ok (.getstatic 3, 3) := by decide +kernel
theorem d1_4 : decode prog_72_method_4_code 4 = .ok (.if_acmp .eq 10, 3) := by decide +kernel
theorem d1_7 : decode prog_72_method_4_code 7 = .ok (.aload_n 0, 1) := by decide +kernel
theorem d1_8 : decode prog_72_method_4_code 8 = .ok (.getstatic 7, 3) := by decide +kernel
theorem d1_11 : decode prog_72_method_4_code 11 = .ok (.if_acmp .ne 7, 3) := by decide +kernel
theorem d1_14 : decode prog_72_method_4_code 14 = .ok (.iconst 1, 1) := by decide +kernel
theorem d1_15 : decode prog_72_method_4_code 15 = .ok (.goto 4, 3) := by decide +kernel
theorem d1_18 : decode prog_72_method_4_code 18 = .ok (.iconst 0, 1) := by decide +kernel
theorem d1_19 : decode prog_72_method_4_code 19 = .ok (.ireturn, 1) := by decide +kernel
theorem pn_1 : plainName "com/example/releve/releve/Status" = true := by first | (simp [plainName, overriddenIn]; done) | decide +kernel
theorem ef_1 (m : MethodId) (x0 : Addr) : entryFrame m #[(.ref x0)] 1 = mkF m 0 #[.val (.ref x0)] [] := by first | (simp [entryFrame, mkF, argsToLocals, Value.category]; done) | rfl
def f1 (a1 : Addr) (w_OPTIMAL : Addr) (w_FEASIBLE : Addr) : Int32 := (if a1 = w_OPTIMAL then (1 : Int32) else (if a1 = w_FEASIBLE then (1 : Int32) else (0 : Int32)))
def Q1 (Z : State) (a1 : Addr) (w_OPTIMAL : Addr) (w_FEASIBLE : Addr) (h0 : Heap) (n0 : Nat) (v : Option Value) (h : Heap) (L : List Loc) : Prop := v = some (.int (f1 a1 w_OPTIMAL w_FEASIBLE)) ∧ Fr n0 L ∧ h = h0
set_option maxRecDepth 65536 in
set_option maxHeartbeats 40000000 in
theorem rm1 (l : Launch) (Z : State) (a0 : Array Value) (hw : ∀ d ∈ tables_1, d.before a0 Z = true) (ws : List Jvm.Cond) (a1 : Addr) (w_OPTIMAL : Addr) (w_FEASIBLE : Addr) (h0 : Heap) (n0 : Nat) (Z0 : n0 ≤ h0.size) (S_OPTIMAL : Sta Z h0 "com/example/releve/releve/Status" "OPTIMAL" "Lcom/example/releve/releve/Status;" (.ref w_OPTIMAL)) (S_FEASIBLE : Sta Z h0 "com/example/releve/releve/Status" "FEASIBLE" "Lcom/example/releve/releve/Status;" (.ref w_FEASIBLE)) :
    MetFree l (⟨"com/example/releve/releve/Status", "hasSolution", "()Z"⟩ : MethodName) (head1 (Jvm.Cond.code (⟨"com/example/releve/releve/Status", "hasSolution", "()Z"⟩ : MethodName) prog_72_method_4_code 1 (some .boolean) :: ws) ({ frames := 0, cells := 0, slots := 0, locals := 0 } : Room)) (fun a U => a = #[(.ref a1)] ∧ Z.Warmed39 U.vm ∧ U.heap = h0) (fun _ _ _ _ _ => True) (fun _ U o U' => ∃ v L, o = .returned v ∧ Q1 Z a1 w_OPTIMAL w_FEASIBLE h0 n0 v U'.heap L ∧ FrameEnd U o U' L ({ frames := 0, cells := 0, slots := 0, locals := 0 } : Room).cells ({ frames := 0, cells := 0, slots := 0, locals := 0 } : Room).slots) := by
  refine MetFree.of_bodySF (plainFor_of_name pn_1) hisR ?_
  intro p e s m args below meth c s₁ Bd hml0 hP hK
  obtain ⟨rfl, hZ, hh⟩ := hP
  have hx := Bd.exec
  have hby := Bd.bytes
  have hml : c.maxLocals = 1 := hml0
  have hown : s.vm.findClass "com/example/releve/releve/Status" = some m.cls := findClass_of_methodNamed Bd.named
  have hnm := (name_of_methodNamed Bd.named Bd.method).1
  have X0 : Stand p l e ({ frames := 0, cells := 0, slots := 0, locals := 0 } : Room) s m #[(.ref a1)] below meth c s₁ [] 0 0 := Stand.of_body Bd
  have e0 : s₁.heap = h0 := by rw [← hh, Bd.state]; rfl
  have N0 := Fr.nil n0
  have pre0 : ∀ t, Steps p.tables e below (s₁.setTop (mkF m 0 #[.val (.ref a1)] [])) t → Steps p.tables e below (s₁.setTop (entryFrame m #[(.ref a1)] 1)) t := fun t k => castTop (ef_1 m a1) k
  obtain ⟨T2, X2, e2, st2⟩ := getS2 X0 hx hZ hown (host := "") (Or.inl (hw _ (List.mem_of_getElem? (i := 8) rfl))) Via.refl e0 S_OPTIMAL (g := (mkF m 1 #[.val (.ref a1)] [(.ref a1)])) rfl (hb hby d1_1)
  have pre3 : ∀ t, Steps p.tables e below (T2.setTop (mkF m 4 #[.val (.ref a1)] [(.ref w_OPTIMAL), (.ref a1)])) t → Steps p.tables e below (s₁.setTop (entryFrame m #[(.ref a1)] 1)) t := fun t kt => by
    refine pre0 _ ?_
    show Steps p.tables e below (s₁.setTop (mkF m 0 #[.val (.ref a1)] [])) _
    refine XS.aloadN X0.here hx rfl (hb hby d1_0) rfl rfl ?_
    show Steps p.tables e below (s₁.setTop (mkF m 1 _ [(.ref a1)])) _
    refine st2 _ ?_
    exact kt
  by_cases hc4 : a1 = w_OPTIMAL
  · skip
    obtain ⟨fs, hr, hrun, hended, hW, hsame⟩ := X2.leave (v := some (.int (1 : Int32))) (fun h => by rw [Bd.returns] at h; cases h)
    refine ⟨_, _, pre3 _ ?_, hrun, hended, _, _, rfl, ?_, ⟨_, rfl⟩, hW, hsame.mono (by decide) (by decide)⟩
    · show Steps p.tables e below (T2.setTop (mkF m 4 #[.val (.ref a1)] [(.ref w_OPTIMAL), (.ref a1)])) _
      refine Jvm.RoadKit.acmp (g := (mkF m 4 #[.val (.ref a1)] [(.ref w_OPTIMAL), (.ref a1)])) X2 hx rfl rfl rfl (pc0 := 4) (pc' := 14) (same := true) rfl (hb hby d1_4) rfl (decide_eq_true (congrArg Value.ref hc4)) (by decide) (by decide) ?_
      show Steps p.tables e below (T2.setTop (mkF m 14 _ [])) _
      refine XS.iconst X2.here hx rfl (hb hby d1_14) ?_
      show Steps p.tables e below (T2.setTop (mkF m 15 _ [(.int (1 : Int32))])) _
      refine XS.goto X2.here hx rfl (pc0 := 15) (pc' := 19) rfl (hb hby d1_15) (by decide) (by decide) ?_
      show Steps p.tables e below (T2.setTop (mkF m 19 #[.val (.ref a1)] [(.int (1 : Int32))])) _
      exact retN X2 hx (t := .boolean) Bd.returns (by simp) (hb hby d1_19) hr
    · show Q1 Z a1 w_OPTIMAL w_FEASIBLE h0 n0 _ T2.heap _
      rw [e2]
      exact ⟨congrArg (fun z => some (Value.int z)) (by rw [f1, if_pos hc4] : f1 a1 w_OPTIMAL w_FEASIBLE = (1 : Int32)).symm, N0, rfl⟩
  · skip
    obtain ⟨T5, X5, e5, st5⟩ := getS2 X2 hx hZ hown (host := "") (Or.inl (hw _ (List.mem_of_getElem? (i := 11) rfl))) Via.refl e2 S_FEASIBLE (g := (mkF m 8 #[.val (.ref a1)] [(.ref a1)])) rfl (hb hby d1_8)
    have pre6 : ∀ t, Steps p.tables e below (T5.setTop (mkF m 11 #[.val (.ref a1)] [(.ref w_FEASIBLE), (.ref a1)])) t → Steps p.tables e below (s₁.setTop (entryFrame m #[(.ref a1)] 1)) t := fun t kt => by
      refine pre3 _ ?_
      show Steps p.tables e below (T2.setTop (mkF m 4 #[.val (.ref a1)] [(.ref w_OPTIMAL), (.ref a1)])) _
      refine Jvm.RoadKit.acmp (g := (mkF m 4 #[.val (.ref a1)] [(.ref w_OPTIMAL), (.ref a1)])) X2 hx rfl rfl rfl (pc0 := 4) (pc' := 7) (same := false) rfl (hb hby d1_4) rfl (decide_eq_false fun q => hc4 (Value.ref.inj q)) (by decide) (by decide) ?_
      show Steps p.tables e below (T2.setTop (mkF m 7 _ [])) _
      refine XS.aloadN X2.here hx rfl (hb hby d1_7) rfl rfl ?_
      show Steps p.tables e below (T2.setTop (mkF m 8 _ [(.ref a1)])) _
      refine st5 _ ?_
      exact kt
    by_cases hc7 : a1 = w_FEASIBLE
    · skip
      obtain ⟨fs, hr, hrun, hended, hW, hsame⟩ := X5.leave (v := some (.int (1 : Int32))) (fun h => by rw [Bd.returns] at h; cases h)
      refine ⟨_, _, pre6 _ ?_, hrun, hended, _, _, rfl, ?_, ⟨_, rfl⟩, hW, hsame.mono (by decide) (by decide)⟩
      · show Steps p.tables e below (T5.setTop (mkF m 11 #[.val (.ref a1)] [(.ref w_FEASIBLE), (.ref a1)])) _
        refine Jvm.RoadKit.acmp (g := (mkF m 11 #[.val (.ref a1)] [(.ref w_FEASIBLE), (.ref a1)])) X5 hx rfl rfl rfl (pc0 := 11) (pc' := 14) (same := true) rfl (hb hby d1_11) rfl (decide_eq_true (congrArg Value.ref hc7)) (by decide) (by decide) ?_
        show Steps p.tables e below (T5.setTop (mkF m 14 _ [])) _
        refine XS.iconst X5.here hx rfl (hb hby d1_14) ?_
        show Steps p.tables e below (T5.setTop (mkF m 15 _ [(.int (1 : Int32))])) _
        refine XS.goto X5.here hx rfl (pc0 := 15) (pc' := 19) rfl (hb hby d1_15) (by decide) (by decide) ?_
        show Steps p.tables e below (T5.setTop (mkF m 19 #[.val (.ref a1)] [(.int (1 : Int32))])) _
        exact retN X5 hx (t := .boolean) Bd.returns (by simp) (hb hby d1_19) hr
      · show Q1 Z a1 w_OPTIMAL w_FEASIBLE h0 n0 _ T5.heap _
        rw [e5]
        exact ⟨congrArg (fun z => some (Value.int z)) (by rw [f1, if_neg hc4, if_pos hc7] : f1 a1 w_OPTIMAL w_FEASIBLE = (1 : Int32)).symm, N0, rfl⟩
    · skip
      obtain ⟨fs, hr, hrun, hended, hW, hsame⟩ := X5.leave (v := some (.int (0 : Int32))) (fun h => by rw [Bd.returns] at h; cases h)
      refine ⟨_, _, pre6 _ ?_, hrun, hended, _, _, rfl, ?_, ⟨_, rfl⟩, hW, hsame.mono (by decide) (by decide)⟩
      · show Steps p.tables e below (T5.setTop (mkF m 11 #[.val (.ref a1)] [(.ref w_FEASIBLE), (.ref a1)])) _
        refine Jvm.RoadKit.acmp (g := (mkF m 11 #[.val (.ref a1)] [(.ref w_FEASIBLE), (.ref a1)])) X5 hx rfl rfl rfl (pc0 := 11) (pc' := 18) (same := false) rfl (hb hby d1_11) rfl (decide_eq_false fun q => hc7 (Value.ref.inj q)) (by decide) (by decide) ?_
        show Steps p.tables e below (T5.setTop (mkF m 18 _ [])) _
        refine XS.iconst X5.here hx rfl (hb hby d1_18) ?_
        show Steps p.tables e below (T5.setTop (mkF m 19 #[.val (.ref a1)] [(.int (0 : Int32))])) _
        exact retN X5 hx (t := .boolean) Bd.returns (by simp) (hb hby d1_19) hr
      · show Q1 Z a1 w_OPTIMAL w_FEASIBLE h0 n0 _ T5.heap _
        rw [e5]
        exact ⟨congrArg (fun z => some (Value.int z)) (by rw [f1, if_neg hc4, if_neg hc7] : f1 a1 w_OPTIMAL w_FEASIBLE = (0 : Int32)).symm, N0, rfl⟩
theorem pn_0 : plainName "com/example/releve/releve/StatusHasSolutionPinLaw" = true := by first | (simp [plainName, overriddenIn]; done) | decide +kernel
theorem pd_0_0 : parseMethodDescriptor "()Z" = some ⟨[], some .boolean⟩ := by decide +kernel
theorem ef_0 (m : MethodId) (x0 : Int32) : entryFrame m #[(.int x0)] maxLocals = mkF m 0 #[.val (.int x0), .unset, .unset, .unset] [] := by first | (simp [entryFrame, mkF, argsToLocals, Value.category, maxLocals]; done) | rfl
def f0 (p1 : Int32) (w_OPTIMAL : Addr) (w_FEASIBLE : Addr) (w_INFEASIBLE : Addr) (w_UNKNOWN : Addr) : Int32 := (if (p1 &&& (3 : Int32)) = (0 : Int32) then (if (f1 w_OPTIMAL w_OPTIMAL w_FEASIBLE) = (1 : Int32) then (1 : Int32) else (0 : Int32)) else (if (p1 &&& (3 : Int32)) = (1 : Int32) then (if (f1 w_FEASIBLE w_OPTIMAL w_FEASIBLE) = (1 : Int32) then (1 : Int32) else (0 : Int32)) else (if (p1 &&& (3 : Int32)) = (2 : Int32) then (if (f1 w_INFEASIBLE w_OPTIMAL w_FEASIBLE) = (0 : Int32) then (1 : Int32) else (0 : Int32)) else (if (f1 w_UNKNOWN w_OPTIMAL w_FEASIBLE) = (0 : Int32) then (1 : Int32) else (0 : Int32)))))
def Q0 (Z : State) (p1 : Int32) (w_OPTIMAL : Addr) (w_FEASIBLE : Addr) (w_INFEASIBLE : Addr) (w_UNKNOWN : Addr) (h0 : Heap) (n0 : Nat) (v : Option Value) (h : Heap) (L : List Loc) : Prop := v = some (.int (f0 p1 w_OPTIMAL w_FEASIBLE w_INFEASIBLE w_UNKNOWN)) ∧ Fr n0 L
set_option maxRecDepth 65536 in
set_option maxHeartbeats 40000000 in
theorem rm0 (l : Launch) (Z : State) (a0 : Array Value) (hw : ∀ d ∈ tables_1, d.before a0 Z = true) (ws : List Jvm.Cond) (p1 : Int32) (w_OPTIMAL : Addr) (w_FEASIBLE : Addr) (w_INFEASIBLE : Addr) (w_UNKNOWN : Addr) (h0 : Heap) (n0 : Nat) (Z0 : n0 ≤ h0.size) (S_OPTIMAL : Sta Z h0 "com/example/releve/releve/Status" "OPTIMAL" "Lcom/example/releve/releve/Status;" (.ref w_OPTIMAL)) (S_FEASIBLE : Sta Z h0 "com/example/releve/releve/Status" "FEASIBLE" "Lcom/example/releve/releve/Status;" (.ref w_FEASIBLE)) (E_w_OPTIMAL : Exa Z h0 w_OPTIMAL "com/example/releve/releve/Status") (E_w_FEASIBLE : Exa Z h0 w_FEASIBLE "com/example/releve/releve/Status") (S_INFEASIBLE : Sta Z h0 "com/example/releve/releve/Status" "INFEASIBLE" "Lcom/example/releve/releve/Status;" (.ref w_INFEASIBLE)) (E_w_INFEASIBLE : Exa Z h0 w_INFEASIBLE "com/example/releve/releve/Status") (S_UNKNOWN : Sta Z h0 "com/example/releve/releve/Status" "UNKNOWN" "Lcom/example/releve/releve/Status;" (.ref w_UNKNOWN)) (E_w_UNKNOWN : Exa Z h0 w_UNKNOWN "com/example/releve/releve/Status") :
    MetFree l x (head1 (Jvm.Cond.code x code maxLocals ret :: ws) room_1) (fun a U => a = #[(.int p1)] ∧ Z.Warmed39 U.vm ∧ U.heap = h0) (fun _ _ _ _ _ => True) (fun _ U o U' => ∃ v L, o = .returned v ∧ Q0 Z p1 w_OPTIMAL w_FEASIBLE w_INFEASIBLE w_UNKNOWN h0 n0 v U'.heap L ∧ FrameEnd U o U' L room_1.cells room_1.slots) := by
  refine MetFree.of_bodySF (plainFor_of_name pn_0) hisR ?_
  intro p e s m args below meth c s₁ Bd hml0 hP hK
  obtain ⟨rfl, hZ, hh⟩ := hP
  have hx := Bd.exec
  have hby := Bd.bytes
  have hml : c.maxLocals = 4 := hml0
  have hown : s.vm.findClass "com/example/releve/releve/StatusHasSolutionPinLaw" = some m.cls := findClass_of_methodNamed Bd.named
  have hnm := (name_of_methodNamed Bd.named Bd.method).1
  have X0 : Stand p l e room_1 s m #[(.int p1)] below meth c s₁ [] 0 0 := Stand.of_body Bd
  have e0 : s₁.heap = h0 := by rw [← hh, Bd.state]; rfl
  have N0 := Fr.nil n0
  have pre0 : ∀ t, Steps p.tables e below (s₁.setTop (mkF m 0 #[.val (.int p1), .unset, .unset, .unset] [])) t → Steps p.tables e below (s₁.setTop (entryFrame m #[(.int p1)] maxLocals)) t := fun t k => castTop (ef_0 m p1) k
  have pre2 : ∀ t, Steps p.tables e below (s₁.setTop (mkF m 5 #[.val (.int p1), .val (.int (p1 &&& (3 : Int32))), .unset, .unset] [(.int (p1 &&& (3 : Int32)))])) t → Steps p.tables e below (s₁.setTop (entryFrame m #[(.int p1)] maxLocals)) t := fun t kt => by
    refine pre0 _ ?_
    show Steps p.tables e below (s₁.setTop (mkF m 0 #[.val (.int p1), .unset, .unset, .unset] [])) _
    refine XS.iloadN X0.here hx rfl (hb hby at_0) rfl ?_
    show Steps p.tables e below (s₁.setTop (mkF m 1 _ [(.int p1)])) _
    refine XS.iconst X0.here hx rfl (hb hby at_1) ?_
    show Steps p.tables e below (s₁.setTop (mkF m 2 _ [(.int (3 : Int32)), (.int p1)])) _
    refine XS.iand X0.here hx rfl (hb hby at_2) rfl ?_
    show Steps p.tables e below (s₁.setTop (mkF m 3 _ [(.int (p1 &&& (3 : Int32)))])) _
    refine XS.istoreN X0.here hx rfl (hb hby at_3) rfl (l' := #[.val (.int p1), .val (.int (p1 &&& (3 : Int32))), .unset, .unset]) rfl ?_
    show Steps p.tables e below (s₁.setTop (mkF m 4 _ [])) _
    refine XS.iloadN X0.here hx rfl (hb hby at_4) rfl ?_
    exact kt
  by_cases hc3 : (p1 &&& (3 : Int32)) = (0 : Int32)
  · skip
    obtain ⟨T4, X4, e4, st4⟩ := getS2 X0 hx hZ hown (host := "") (Or.inl (hw _ (List.mem_of_getElem? (i := 0) rfl))) Via.refl e0 S_OPTIMAL (g := (mkF m 8 #[.val (.int p1), .val (.int (p1 &&& (3 : Int32))), .unset, .unset] [])) rfl (hb hby at_8)
    obtain ⟨cq5, kq5, q5a, q5b, q5c⟩ := isOf hZ e4 E_w_OPTIMAL
    obtain ⟨_, _, ⟨T5, L5, k5, n5⟩, -, X5, ⟨Lc5, hQ5, l5, y5, z5⟩, st5⟩ := X4.virtualBack hx (y := (⟨"com/example/releve/releve/Status", "hasSolution", "()Z"⟩ : MethodName)) (z := (⟨"com/example/releve/releve/Status", "hasSolution", "()Z"⟩ : MethodName)) hown (mvT hZ (hw _ (List.mem_of_getElem? (i := 3) rfl))) (mvT hZ (hw _ (List.mem_of_getElem? (i := 4) rfl))) (notFace_of_selects (args := #[]) (mvT hZ (hw _ (List.mem_of_getElem? (i := 6) rfl)))) (mvT hZ (hw _ (List.mem_of_getElem? (i := 6) rfl))) (mvT hZ (hw _ (List.mem_of_getElem? (i := 5) rfl))) (by decide) (backOf (W := 0) (rm1 l Z a0 hw [] w_OPTIMAL w_OPTIMAL w_FEASIBLE h0 n0 Z0 S_OPTIMAL S_FEASIBLE) hZ (hw _ (List.mem_of_getElem? (i := 7) rfl)) (hw _ (List.mem_of_getElem? (i := 1) rfl)) (by decide) (by decide)) q5a q5c (g := (mkF m 52 #[.val (.int p1), .val (.int (p1 &&& (3 : Int32))), .val (.ref w_OPTIMAL), .val (.int (1 : Int32))] [(.ref w_OPTIMAL)])) rfl (by rw [hml]; rfl) (Steps.refl _) (argsL := []) (rest := []) (lenOf pd_0_0 rfl) rfl (by show 2 * 0 + _ ≤ _; exact Nat.le_of_eq rfl) (hb hby at_52) (fun _ _ => ⟨rfl, e4, (by decide : 0 + 0 ≤ _), (by decide : 0 + 0 ≤ _)⟩)
    dsimp only [Pt.U, Pt.locs, Pt.cells, Pt.slots] at X5 l5 y5 z5 st5 hQ5
    subst l5 y5 z5
    obtain ⟨rfl, N5q, e5⟩ := hQ5
    have N5 := Fr.app N0 N5q
    have pre6 : ∀ t, Steps p.tables e below (T5.setTop (mkF m 56 #[.val (.int p1), .val (.int (p1 &&& (3 : Int32))), .val (.ref w_OPTIMAL), .val (.int (1 : Int32))] [(.int (1 : Int32)), (.int (f1 w_OPTIMAL w_OPTIMAL w_FEASIBLE))])) t → Steps p.tables e below (s₁.setTop (entryFrame m #[(.int p1)] maxLocals)) t := fun t kt => by
      refine pre2 _ ?_
      show Steps p.tables e below (s₁.setTop (mkF m 5 #[.val (.int p1), .val (.int (p1 &&& (3 : Int32))), .unset, .unset] [(.int (p1 &&& (3 : Int32)))])) _
      refine XS.ifNo X0.here hx rfl (hb hby at_5) rfl ((if0 _ _).trans (teq hc3).2) ?_
      show Steps p.tables e below (s₁.setTop (mkF m 8 _ [])) _
      refine st4 _ ?_
      show Steps p.tables e below (T4.setTop (mkF m 11 _ [(.ref w_OPTIMAL)])) _
      refine XS.astoreN X4.here hx rfl (hb hby at_11) rfl rfl (l' := #[.val (.int p1), .val (.int (p1 &&& (3 : Int32))), .val (.ref w_OPTIMAL), .unset]) rfl ?_
      show Steps p.tables e below (T4.setTop (mkF m 12 _ [])) _
      refine XS.iconst X4.here hx rfl (hb hby at_12) ?_
      show Steps p.tables e below (T4.setTop (mkF m 13 _ [(.int (1 : Int32))])) _
      refine XS.istoreN X4.here hx rfl (hb hby at_13) rfl (l' := #[.val (.int p1), .val (.int (p1 &&& (3 : Int32))), .val (.ref w_OPTIMAL), .val (.int (1 : Int32))]) rfl ?_
      show Steps p.tables e below (T4.setTop (mkF m 14 _ [])) _
      refine XS.goto X4.here hx rfl (pc0 := 14) (pc' := 51) rfl (hb hby at_14) (by decide) (by decide) ?_
      show Steps p.tables e below (T4.setTop (mkF m 51 _ [])) _
      refine XS.aloadN X4.here hx rfl (hb hby at_51) rfl rfl ?_
      show Steps p.tables e below (T4.setTop (mkF m 52 _ [(.ref w_OPTIMAL)])) _
      refine st5.trans ?_
      show Steps p.tables e below (T5.setTop (mkF m 55 _ [(.int (f1 w_OPTIMAL w_OPTIMAL w_FEASIBLE))])) _
      refine XS.iloadN X5.here hx rfl (hb hby at_55) rfl ?_
      exact kt
    by_cases hc7 : (f1 w_OPTIMAL w_OPTIMAL w_FEASIBLE) = (1 : Int32)
    · skip
      obtain ⟨fs, hr, hrun, hended, hW, hsame⟩ := X5.leave (v := some (.int (1 : Int32))) (fun h => by rw [Bd.returns] at h; cases h)
      refine ⟨_, _, pre6 _ ?_, hrun, hended, _, _, rfl, ?_, ⟨_, rfl⟩, hW, hsame.mono (by decide) (by decide)⟩
      · show Steps p.tables e below (T5.setTop (mkF m 56 #[.val (.int p1), .val (.int (p1 &&& (3 : Int32))), .val (.ref w_OPTIMAL), .val (.int (1 : Int32))] [(.int (1 : Int32)), (.int (f1 w_OPTIMAL w_OPTIMAL w_FEASIBLE))])) _
        refine XS.icmpNo X5.here hx rfl (hb hby at_56) rfl (teq hc7).2 ?_
        show Steps p.tables e below (T5.setTop (mkF m 59 _ [])) _
        refine XS.iconst X5.here hx rfl (hb hby at_59) ?_
        show Steps p.tables e below (T5.setTop (mkF m 60 _ [(.int (1 : Int32))])) _
        refine XS.goto X5.here hx rfl (pc0 := 60) (pc' := 64) rfl (hb hby at_60) (by decide) (by decide) ?_
        show Steps p.tables e below (T5.setTop (mkF m 64 #[.val (.int p1), .val (.int (p1 &&& (3 : Int32))), .val (.ref w_OPTIMAL), .val (.int (1 : Int32))] [(.int (1 : Int32))])) _
        exact retN X5 hx (t := .boolean) Bd.returns (by simp) (hb hby at_64) hr
      · show Q0 Z p1 w_OPTIMAL w_FEASIBLE w_INFEASIBLE w_UNKNOWN h0 n0 _ T5.heap _
        rw [e5]
        exact ⟨congrArg (fun z => some (Value.int z)) (by rw [f0, if_pos hc3, if_pos hc7] : f0 p1 w_OPTIMAL w_FEASIBLE w_INFEASIBLE w_UNKNOWN = (1 : Int32)).symm, N5⟩
    · skip
      obtain ⟨fs, hr, hrun, hended, hW, hsame⟩ := X5.leave (v := some (.int (0 : Int32))) (fun h => by rw [Bd.returns] at h; cases h)
      refine ⟨_, _, pre6 _ ?_, hrun, hended, _, _, rfl, ?_, ⟨_, rfl⟩, hW, hsame.mono (by decide) (by decide)⟩
      · show Steps p.tables e below (T5.setTop (mkF m 56 #[.val (.int p1), .val (.int (p1 &&& (3 : Int32))), .val (.ref w_OPTIMAL), .val (.int (1 : Int32))] [(.int (1 : Int32)), (.int (f1 w_OPTIMAL w_OPTIMAL w_FEASIBLE))])) _
        refine XS.icmpYes X5.here hx rfl (pc0 := 56) (pc' := 63) rfl (hb hby at_56) rfl (feq hc7).2 (by decide) (by decide) ?_
        show Steps p.tables e below (T5.setTop (mkF m 63 _ [])) _
        refine XS.iconst X5.here hx rfl (hb hby at_63) ?_
        show Steps p.tables e below (T5.setTop (mkF m 64 #[.val (.int p1), .val (.int (p1 &&& (3 : Int32))), .val (.ref w_OPTIMAL), .val (.int (1 : Int32))] [(.int (0 : Int32))])) _
        exact retN X5 hx (t := .boolean) Bd.returns (by simp) (hb hby at_64) hr
      · show Q0 Z p1 w_OPTIMAL w_FEASIBLE w_INFEASIBLE w_UNKNOWN h0 n0 _ T5.heap _
        rw [e5]
        exact ⟨congrArg (fun z => some (Value.int z)) (by rw [f0, if_pos hc3, if_neg hc7] : f0 p1 w_OPTIMAL w_FEASIBLE w_INFEASIBLE w_UNKNOWN = (0 : Int32)).symm, N5⟩
  · skip
    have pre8 : ∀ t, Steps p.tables e below (s₁.setTop (mkF m 19 #[.val (.int p1), .val (.int (p1 &&& (3 : Int32))), .unset, .unset] [(.int (1 : Int32)), (.int (p1 &&& (3 : Int32)))])) t → Steps p.tables e below (s₁.setTop (entryFrame m #[(.int p1)] maxLocals)) t := fun t kt => by
      refine pre2 _ ?_
      show Steps p.tables e below (s₁.setTop (mkF m 5 #[.val (.int p1), .val (.int (p1 &&& (3 : Int32))), .unset, .unset] [(.int (p1 &&& (3 : Int32)))])) _
      refine XS.ifYes X0.here hx rfl (pc0 := 5) (pc' := 17) rfl (hb hby at_5) rfl ((if0 _ _).trans (feq hc3).2) (by decide) (by decide) ?_
      show Steps p.tables e below (s₁.setTop (mkF m 17 _ [])) _
      refine XS.iloadN X0.here hx rfl (hb hby at_17) rfl ?_
      show Steps p.tables e below (s₁.setTop (mkF m 18 _ [(.int (p1 &&& (3 : Int32)))])) _
      refine XS.iconst X0.here hx rfl (hb hby at_18) ?_
      exact kt
    by_cases hc9 : (p1 &&& (3 : Int32)) = (1 : Int32)
    · skip
      obtain ⟨T10, X10, e10, st10⟩ := getS2 X0 hx hZ hown (host := "") (Or.inl (hw _ (List.mem_of_getElem? (i := 15) rfl))) Via.refl e0 S_FEASIBLE (g := (mkF m 22 #[.val (.int p1), .val (.int (p1 &&& (3 : Int32))), .unset, .unset] [])) rfl (hb hby at_22)
      obtain ⟨cq11, kq11, q11a, q11b, q11c⟩ := isOf hZ e10 E_w_FEASIBLE
      obtain ⟨_, _, ⟨T11, L11, k11, n11⟩, -, X11, ⟨Lc11, hQ11, l11, y11, z11⟩, st11⟩ := X10.virtualBack hx (y := (⟨"com/example/releve/releve/Status", "hasSolution", "()Z"⟩ : MethodName)) (z := (⟨"com/example/releve/releve/Status", "hasSolution", "()Z"⟩ : MethodName)) hown (mvT hZ (hw _ (List.mem_of_getElem? (i := 3) rfl))) (mvT hZ (hw _ (List.mem_of_getElem? (i := 4) rfl))) (notFace_of_selects (args := #[]) (mvT hZ (hw _ (List.mem_of_getElem? (i := 6) rfl)))) (mvT hZ (hw _ (List.mem_of_getElem? (i := 6) rfl))) (mvT hZ (hw _ (List.mem_of_getElem? (i := 5) rfl))) (by decide) (backOf (W := 0) (rm1 l Z a0 hw [] w_FEASIBLE w_OPTIMAL w_FEASIBLE h0 n0 Z0 S_OPTIMAL S_FEASIBLE) hZ (hw _ (List.mem_of_getElem? (i := 7) rfl)) (hw _ (List.mem_of_getElem? (i := 1) rfl)) (by decide) (by decide)) q11a q11c (g := (mkF m 52 #[.val (.int p1), .val (.int (p1 &&& (3 : Int32))), .val (.ref w_FEASIBLE), .val (.int (1 : Int32))] [(.ref w_FEASIBLE)])) rfl (by rw [hml]; rfl) (Steps.refl _) (argsL := []) (rest := []) (lenOf pd_0_0 rfl) rfl (by show 2 * 0 + _ ≤ _; exact Nat.le_of_eq rfl) (hb hby at_52) (fun _ _ => ⟨rfl, e10, (by decide : 0 + 0 ≤ _), (by decide : 0 + 0 ≤ _)⟩)
      dsimp only [Pt.U, Pt.locs, Pt.cells, Pt.slots] at X11 l11 y11 z11 st11 hQ11
      subst l11 y11 z11
      obtain ⟨rfl, N11q, e11⟩ := hQ11
      have N11 := Fr.app N0 N11q
      have pre12 : ∀ t, Steps p.tables e below (T11.setTop (mkF m 56 #[.val (.int p1), .val (.int (p1 &&& (3 : Int32))), .val (.ref w_FEASIBLE), .val (.int (1 : Int32))] [(.int (1 : Int32)), (.int (f1 w_FEASIBLE w_OPTIMAL w_FEASIBLE))])) t → Steps p.tables e below (s₁.setTop (entryFrame m #[(.int p1)] maxLocals)) t := fun t kt => by
        refine pre8 _ ?_
        show Steps p.tables e below (s₁.setTop (mkF m 19 #[.val (.int p1), .val (.int (p1 &&& (3 : Int32))), .unset, .unset] [(.int (1 : Int32)), (.int (p1 &&& (3 : Int32)))])) _
        refine XS.icmpNo X0.here hx rfl (hb hby at_19) rfl (teq hc9).2 ?_
        show Steps p.tables e below (s₁.setTop (mkF m 22 _ [])) _
        refine st10 _ ?_
        show Steps p.tables e below (T10.setTop (mkF m 25 _ [(.ref w_FEASIBLE)])) _
        refine XS.astoreN X10.here hx rfl (hb hby at_25) rfl rfl (l' := #[.val (.int p1), .val (.int (p1 &&& (3 : Int32))), .val (.ref w_FEASIBLE), .unset]) rfl ?_
        show Steps p.tables e below (T10.setTop (mkF m 26 _ [])) _
        refine XS.iconst X10.here hx rfl (hb hby at_26) ?_
        show Steps p.tables e below (T10.setTop (mkF m 27 _ [(.int (1 : Int32))])) _
        refine XS.istoreN X10.here hx rfl (hb hby at_27) rfl (l' := #[.val (.int p1), .val (.int (p1 &&& (3 : Int32))), .val (.ref w_FEASIBLE), .val (.int (1 : Int32))]) rfl ?_
        show Steps p.tables e below (T10.setTop (mkF m 28 _ [])) _
        refine XS.goto X10.here hx rfl (pc0 := 28) (pc' := 51) rfl (hb hby at_28) (by decide) (by decide) ?_
        show Steps p.tables e below (T10.setTop (mkF m 51 _ [])) _
        refine XS.aloadN X10.here hx rfl (hb hby at_51) rfl rfl ?_
        show Steps p.tables e below (T10.setTop (mkF m 52 _ [(.ref w_FEASIBLE)])) _
        refine st11.trans ?_
        show Steps p.tables e below (T11.setTop (mkF m 55 _ [(.int (f1 w_FEASIBLE w_OPTIMAL w_FEASIBLE))])) _
        refine XS.iloadN X11.here hx rfl (hb hby at_55) rfl ?_
        exact kt
      by_cases hc13 : (f1 w_FEASIBLE w_OPTIMAL w_FEASIBLE) = (1 : Int32)
      · skip
        obtain ⟨fs, hr, hrun, hended, hW, hsame⟩ := X11.leave (v := some (.int (1 : Int32))) (fun h => by rw [Bd.returns] at h; cases h)
        refine ⟨_, _, pre12 _ ?_, hrun, hended, _, _, rfl, ?_, ⟨_, rfl⟩, hW, hsame.mono (by decide) (by decide)⟩
        · show Steps p.tables e below (T11.setTop (mkF m 56 #[.val (.int p1), .val (.int (p1 &&& (3 : Int32))), .val (.ref w_FEASIBLE), .val (.int (1 : Int32))] [(.int (1 : Int32)), (.int (f1 w_FEASIBLE w_OPTIMAL w_FEASIBLE))])) _
          refine XS.icmpNo X11.here hx rfl (hb hby at_56) rfl (teq hc13).2 ?_
          show Steps p.tables e below (T11.setTop (mkF m 59 _ [])) _
          refine XS.iconst X11.here hx rfl (hb hby at_59) ?_
          show Steps p.tables e below (T11.setTop (mkF m 60 _ [(.int (1 : Int32))])) _
          refine XS.goto X11.here hx rfl (pc0 := 60) (pc' := 64) rfl (hb hby at_60) (by decide) (by decide) ?_
          show Steps p.tables e below (T11.setTop (mkF m 64 #[.val (.int p1), .val (.int (p1 &&& (3 : Int32))), .val (.ref w_FEASIBLE), .val (.int (1 : Int32))] [(.int (1 : Int32))])) _
          exact retN X11 hx (t := .boolean) Bd.returns (by simp) (hb hby at_64) hr
        · show Q0 Z p1 w_OPTIMAL w_FEASIBLE w_INFEASIBLE w_UNKNOWN h0 n0 _ T11.heap _
          rw [e11]
          exact ⟨congrArg (fun z => some (Value.int z)) (by rw [f0, if_neg hc3, if_pos hc9, if_pos hc13] : f0 p1 w_OPTIMAL w_FEASIBLE w_INFEASIBLE w_UNKNOWN = (1 : Int32)).symm, N11⟩
      · skip
        obtain ⟨fs, hr, hrun, hended, hW, hsame⟩ := X11.leave (v := some (.int (0 : Int32))) (fun h => by rw [Bd.returns] at h; cases h)
        refine ⟨_, _, pre12 _ ?_, hrun, hended, _, _, rfl, ?_, ⟨_, rfl⟩, hW, hsame.mono (by decide) (by decide)⟩
        · show Steps p.tables e below (T11.setTop (mkF m 56 #[.val (.int p1), .val (.int (p1 &&& (3 : Int32))), .val (.ref w_FEASIBLE), .val (.int (1 : Int32))] [(.int (1 : Int32)), (.int (f1 w_FEASIBLE w_OPTIMAL w_FEASIBLE))])) _
          refine XS.icmpYes X11.here hx rfl (pc0 := 56) (pc' := 63) rfl (hb hby at_56) rfl (feq hc13).2 (by decide) (by decide) ?_
          show Steps p.tables e below (T11.setTop (mkF m 63 _ [])) _
          refine XS.iconst X11.here hx rfl (hb hby at_63) ?_
          show Steps p.tables e below (T11.setTop (mkF m 64 #[.val (.int p1), .val (.int (p1 &&& (3 : Int32))), .val (.ref w_FEASIBLE), .val (.int (1 : Int32))] [(.int (0 : Int32))])) _
          exact retN X11 hx (t := .boolean) Bd.returns (by simp) (hb hby at_64) hr
        · show Q0 Z p1 w_OPTIMAL w_FEASIBLE w_INFEASIBLE w_UNKNOWN h0 n0 _ T11.heap _
          rw [e11]
          exact ⟨congrArg (fun z => some (Value.int z)) (by rw [f0, if_neg hc3, if_pos hc9, if_neg hc13] : f0 p1 w_OPTIMAL w_FEASIBLE w_INFEASIBLE w_UNKNOWN = (0 : Int32)).symm, N11⟩
    · skip
      have pre14 : ∀ t, Steps p.tables e below (s₁.setTop (mkF m 33 #[.val (.int p1), .val (.int (p1 &&& (3 : Int32))), .unset, .unset] [(.int (2 : Int32)), (.int (p1 &&& (3 : Int32)))])) t → Steps p.tables e below (s₁.setTop (entryFrame m #[(.int p1)] maxLocals)) t := fun t kt => by
        refine pre8 _ ?_
        show Steps p.tables e below (s₁.setTop (mkF m 19 #[.val (.int p1), .val (.int (p1 &&& (3 : Int32))), .unset, .unset] [(.int (1 : Int32)), (.int (p1 &&& (3 : Int32)))])) _
        refine XS.icmpYes X0.here hx rfl (pc0 := 19) (pc' := 31) rfl (hb hby at_19) rfl (feq hc9).2 (by decide) (by decide) ?_
        show Steps p.tables e below (s₁.setTop (mkF m 31 _ [])) _
        refine XS.iloadN X0.here hx rfl (hb hby at_31) rfl ?_
        show Steps p.tables e below (s₁.setTop (mkF m 32 _ [(.int (p1 &&& (3 : Int32)))])) _
        refine XS.iconst X0.here hx rfl (hb hby at_32) ?_
        exact kt
      by_cases hc15 : (p1 &&& (3 : Int32)) = (2 : Int32)
      · skip
        obtain ⟨T16, X16, e16, st16⟩ := getS2 X0 hx hZ hown (host := "") (Or.inl (hw _ (List.mem_of_getElem? (i := 13) rfl))) Via.refl e0 S_INFEASIBLE (g := (mkF m 36 #[.val (.int p1), .val (.int (p1 &&& (3 : Int32))), .unset, .unset] [])) rfl (hb hby at_36)
        obtain ⟨cq17, kq17, q17a, q17b, q17c⟩ := isOf hZ e16 E_w_INFEASIBLE
        obtain ⟨_, _, ⟨T17, L17, k17, n17⟩, -, X17, ⟨Lc17, hQ17, l17, y17, z17⟩, st17⟩ := X16.virtualBack hx (y := (⟨"com/example/releve/releve/Status", "hasSolution", "()Z"⟩ : MethodName)) (z := (⟨"com/example/releve/releve/Status", "hasSolution", "()Z"⟩ : MethodName)) hown (mvT hZ (hw _ (List.mem_of_getElem? (i := 3) rfl))) (mvT hZ (hw _ (List.mem_of_getElem? (i := 4) rfl))) (notFace_of_selects (args := #[]) (mvT hZ (hw _ (List.mem_of_getElem? (i := 6) rfl)))) (mvT hZ (hw _ (List.mem_of_getElem? (i := 6) rfl))) (mvT hZ (hw _ (List.mem_of_getElem? (i := 5) rfl))) (by decide) (backOf (W := 0) (rm1 l Z a0 hw [] w_INFEASIBLE w_OPTIMAL w_FEASIBLE h0 n0 Z0 S_OPTIMAL S_FEASIBLE) hZ (hw _ (List.mem_of_getElem? (i := 7) rfl)) (hw _ (List.mem_of_getElem? (i := 1) rfl)) (by decide) (by decide)) q17a q17c (g := (mkF m 52 #[.val (.int p1), .val (.int (p1 &&& (3 : Int32))), .val (.ref w_INFEASIBLE), .val (.int (0 : Int32))] [(.ref w_INFEASIBLE)])) rfl (by rw [hml]; rfl) (Steps.refl _) (argsL := []) (rest := []) (lenOf pd_0_0 rfl) rfl (by show 2 * 0 + _ ≤ _; exact Nat.le_of_eq rfl) (hb hby at_52) (fun _ _ => ⟨rfl, e16, (by decide : 0 + 0 ≤ _), (by decide : 0 + 0 ≤ _)⟩)
        dsimp only [Pt.U, Pt.locs, Pt.cells, Pt.slots] at X17 l17 y17 z17 st17 hQ17
        subst l17 y17 z17
        obtain ⟨rfl, N17q, e17⟩ := hQ17
        have N17 := Fr.app N0 N17q
        have pre18 : ∀ t, Steps p.tables e below (T17.setTop (mkF m 56 #[.val (.int p1), .val (.int (p1 &&& (3 : Int32))), .val (.ref w_INFEASIBLE), .val (.int (0 : Int32))] [(.int (0 : Int32)), (.int (f1 w_INFEASIBLE w_OPTIMAL w_FEASIBLE))])) t → Steps p.tables e below (s₁.setTop (entryFrame m #[(.int p1)] maxLocals)) t := fun t kt => by
          refine pre14 _ ?_
          show Steps p.tables e below (s₁.setTop (mkF m 33 #[.val (.int p1), .val (.int (p1 &&& (3 : Int32))), .unset, .unset] [(.int (2 : Int32)), (.int (p1 &&& (3 : Int32)))])) _
          refine XS.icmpNo X0.here hx rfl (hb hby at_33) rfl (teq hc15).2 ?_
          show Steps p.tables e below (s₁.setTop (mkF m 36 _ [])) _
          refine st16 _ ?_
          show Steps p.tables e below (T16.setTop (mkF m 39 _ [(.ref w_INFEASIBLE)])) _
          refine XS.astoreN X16.here hx rfl (hb hby at_39) rfl rfl (l' := #[.val (.int p1), .val (.int (p1 &&& (3 : Int32))), .val (.ref w_INFEASIBLE), .unset]) rfl ?_
          show Steps p.tables e below (T16.setTop (mkF m 40 _ [])) _
          refine XS.iconst X16.here hx rfl (hb hby at_40) ?_
          show Steps p.tables e below (T16.setTop (mkF m 41 _ [(.int (0 : Int32))])) _
          refine XS.istoreN X16.here hx rfl (hb hby at_41) rfl (l' := #[.val (.int p1), .val (.int (p1 &&& (3 : Int32))), .val (.ref w_INFEASIBLE), .val (.int (0 : Int32))]) rfl ?_
          show Steps p.tables e below (T16.setTop (mkF m 42 _ [])) _
          refine XS.goto X16.here hx rfl (pc0 := 42) (pc' := 51) rfl (hb hby at_42) (by decide) (by decide) ?_
          show Steps p.tables e below (T16.setTop (mkF m 51 _ [])) _
          refine XS.aloadN X16.here hx rfl (hb hby at_51) rfl rfl ?_
          show Steps p.tables e below (T16.setTop (mkF m 52 _ [(.ref w_INFEASIBLE)])) _
          refine st17.trans ?_
          show Steps p.tables e below (T17.setTop (mkF m 55 _ [(.int (f1 w_INFEASIBLE w_OPTIMAL w_FEASIBLE))])) _
          refine XS.iloadN X17.here hx rfl (hb hby at_55) rfl ?_
          exact kt
        by_cases hc19 : (f1 w_INFEASIBLE w_OPTIMAL w_FEASIBLE) = (0 : Int32)
        · skip
          obtain ⟨fs, hr, hrun, hended, hW, hsame⟩ := X17.leave (v := some (.int (1 : Int32))) (fun h => by rw [Bd.returns] at h; cases h)
          refine ⟨_, _, pre18 _ ?_, hrun, hended, _, _, rfl, ?_, ⟨_, rfl⟩, hW, hsame.mono (by decide) (by decide)⟩
          · show Steps p.tables e below (T17.setTop (mkF m 56 #[.val (.int p1), .val (.int (p1 &&& (3 : Int32))), .val (.ref w_INFEASIBLE), .val (.int (0 : Int32))] [(.int (0 : Int32)), (.int (f1 w_INFEASIBLE w_OPTIMAL w_FEASIBLE))])) _
            refine XS.icmpNo X17.here hx rfl (hb hby at_56) rfl (teq hc19).2 ?_
            show Steps p.tables e below (T17.setTop (mkF m 59 _ [])) _
            refine XS.iconst X17.here hx rfl (hb hby at_59) ?_
            show Steps p.tables e below (T17.setTop (mkF m 60 _ [(.int (1 : Int32))])) _
            refine XS.goto X17.here hx rfl (pc0 := 60) (pc' := 64) rfl (hb hby at_60) (by decide) (by decide) ?_
            show Steps p.tables e below (T17.setTop (mkF m 64 #[.val (.int p1), .val (.int (p1 &&& (3 : Int32))), .val (.ref w_INFEASIBLE), .val (.int (0 : Int32))] [(.int (1 : Int32))])) _
            exact retN X17 hx (t := .boolean) Bd.returns (by simp) (hb hby at_64) hr
          · show Q0 Z p1 w_OPTIMAL w_FEASIBLE w_INFEASIBLE w_UNKNOWN h0 n0 _ T17.heap _
            rw [e17]
            exact ⟨congrArg (fun z => some (Value.int z)) (by rw [f0, if_neg hc3, if_neg hc9, if_pos hc15, if_pos hc19] : f0 p1 w_OPTIMAL w_FEASIBLE w_INFEASIBLE w_UNKNOWN = (1 : Int32)).symm, N17⟩
        · skip
          obtain ⟨fs, hr, hrun, hended, hW, hsame⟩ := X17.leave (v := some (.int (0 : Int32))) (fun h => by rw [Bd.returns] at h; cases h)
          refine ⟨_, _, pre18 _ ?_, hrun, hended, _, _, rfl, ?_, ⟨_, rfl⟩, hW, hsame.mono (by decide) (by decide)⟩
          · show Steps p.tables e below (T17.setTop (mkF m 56 #[.val (.int p1), .val (.int (p1 &&& (3 : Int32))), .val (.ref w_INFEASIBLE), .val (.int (0 : Int32))] [(.int (0 : Int32)), (.int (f1 w_INFEASIBLE w_OPTIMAL w_FEASIBLE))])) _
            refine XS.icmpYes X17.here hx rfl (pc0 := 56) (pc' := 63) rfl (hb hby at_56) rfl (feq hc19).2 (by decide) (by decide) ?_
            show Steps p.tables e below (T17.setTop (mkF m 63 _ [])) _
            refine XS.iconst X17.here hx rfl (hb hby at_63) ?_
            show Steps p.tables e below (T17.setTop (mkF m 64 #[.val (.int p1), .val (.int (p1 &&& (3 : Int32))), .val (.ref w_INFEASIBLE), .val (.int (0 : Int32))] [(.int (0 : Int32))])) _
            exact retN X17 hx (t := .boolean) Bd.returns (by simp) (hb hby at_64) hr
          · show Q0 Z p1 w_OPTIMAL w_FEASIBLE w_INFEASIBLE w_UNKNOWN h0 n0 _ T17.heap _
            rw [e17]
            exact ⟨congrArg (fun z => some (Value.int z)) (by rw [f0, if_neg hc3, if_neg hc9, if_pos hc15, if_neg hc19] : f0 p1 w_OPTIMAL w_FEASIBLE w_INFEASIBLE w_UNKNOWN = (0 : Int32)).symm, N17⟩
      · skip
        obtain ⟨T20, X20, e20, st20⟩ := getS2 X0 hx hZ hown (host := "") (Or.inl (hw _ (List.mem_of_getElem? (i := 9) rfl))) Via.refl e0 S_UNKNOWN (g := (mkF m 45 #[.val (.int p1), .val (.int (p1 &&& (3 : Int32))), .unset, .unset] [])) rfl (hb hby at_45)
        obtain ⟨cq21, kq21, q21a, q21b, q21c⟩ := isOf hZ e20 E_w_UNKNOWN
        obtain ⟨_, _, ⟨T21, L21, k21, n21⟩, -, X21, ⟨Lc21, hQ21, l21, y21, z21⟩, st21⟩ := X20.virtualBack hx (y := (⟨"com/example/releve/releve/Status", "hasSolution", "()Z"⟩ : MethodName)) (z := (⟨"com/example/releve/releve/Status", "hasSolution", "()Z"⟩ : MethodName)) hown (mvT hZ (hw _ (List.mem_of_getElem? (i := 3) rfl))) (mvT hZ (hw _ (List.mem_of_getElem? (i := 4) rfl))) (notFace_of_selects (args := #[]) (mvT hZ (hw _ (List.mem_of_getElem? (i := 6) rfl)))) (mvT hZ (hw _ (List.mem_of_getElem? (i := 6) rfl))) (mvT hZ (hw _ (List.mem_of_getElem? (i := 5) rfl))) (by decide) (backOf (W := 0) (rm1 l Z a0 hw [] w_UNKNOWN w_OPTIMAL w_FEASIBLE h0 n0 Z0 S_OPTIMAL S_FEASIBLE) hZ (hw _ (List.mem_of_getElem? (i := 7) rfl)) (hw _ (List.mem_of_getElem? (i := 1) rfl)) (by decide) (by decide)) q21a q21c (g := (mkF m 52 #[.val (.int p1), .val (.int (p1 &&& (3 : Int32))), .val (.ref w_UNKNOWN), .val (.int (0 : Int32))] [(.ref w_UNKNOWN)])) rfl (by rw [hml]; rfl) (Steps.refl _) (argsL := []) (rest := []) (lenOf pd_0_0 rfl) rfl (by show 2 * 0 + _ ≤ _; exact Nat.le_of_eq rfl) (hb hby at_52) (fun _ _ => ⟨rfl, e20, (by decide : 0 + 0 ≤ _), (by decide : 0 + 0 ≤ _)⟩)
        dsimp only [Pt.U, Pt.locs, Pt.cells, Pt.slots] at X21 l21 y21 z21 st21 hQ21
        subst l21 y21 z21
        obtain ⟨rfl, N21q, e21⟩ := hQ21
        have N21 := Fr.app N0 N21q
        have pre22 : ∀ t, Steps p.tables e below (T21.setTop (mkF m 56 #[.val (.int p1), .val (.int (p1 &&& (3 : Int32))), .val (.ref w_UNKNOWN), .val (.int (0 : Int32))] [(.int (0 : Int32)), (.int (f1 w_UNKNOWN w_OPTIMAL w_FEASIBLE))])) t → Steps p.tables e below (s₁.setTop (entryFrame m #[(.int p1)] maxLocals)) t := fun t kt => by
          refine pre14 _ ?_
          show Steps p.tables e below (s₁.setTop (mkF m 33 #[.val (.int p1), .val (.int (p1 &&& (3 : Int32))), .unset, .unset] [(.int (2 : Int32)), (.int (p1 &&& (3 : Int32)))])) _
          refine XS.icmpYes X0.here hx rfl (pc0 := 33) (pc' := 45) rfl (hb hby at_33) rfl (feq hc15).2 (by decide) (by decide) ?_
          show Steps p.tables e below (s₁.setTop (mkF m 45 _ [])) _
          refine st20 _ ?_
          show Steps p.tables e below (T20.setTop (mkF m 48 _ [(.ref w_UNKNOWN)])) _
          refine XS.astoreN X20.here hx rfl (hb hby at_48) rfl rfl (l' := #[.val (.int p1), .val (.int (p1 &&& (3 : Int32))), .val (.ref w_UNKNOWN), .unset]) rfl ?_
          show Steps p.tables e below (T20.setTop (mkF m 49 _ [])) _
          refine XS.iconst X20.here hx rfl (hb hby at_49) ?_
          show Steps p.tables e below (T20.setTop (mkF m 50 _ [(.int (0 : Int32))])) _
          refine XS.istoreN X20.here hx rfl (hb hby at_50) rfl (l' := #[.val (.int p1), .val (.int (p1 &&& (3 : Int32))), .val (.ref w_UNKNOWN), .val (.int (0 : Int32))]) rfl ?_
          show Steps p.tables e below (T20.setTop (mkF m 51 _ [])) _
          refine XS.aloadN X20.here hx rfl (hb hby at_51) rfl rfl ?_
          show Steps p.tables e below (T20.setTop (mkF m 52 _ [(.ref w_UNKNOWN)])) _
          refine st21.trans ?_
          show Steps p.tables e below (T21.setTop (mkF m 55 _ [(.int (f1 w_UNKNOWN w_OPTIMAL w_FEASIBLE))])) _
          refine XS.iloadN X21.here hx rfl (hb hby at_55) rfl ?_
          exact kt
        by_cases hc23 : (f1 w_UNKNOWN w_OPTIMAL w_FEASIBLE) = (0 : Int32)
        · skip
          obtain ⟨fs, hr, hrun, hended, hW, hsame⟩ := X21.leave (v := some (.int (1 : Int32))) (fun h => by rw [Bd.returns] at h; cases h)
          refine ⟨_, _, pre22 _ ?_, hrun, hended, _, _, rfl, ?_, ⟨_, rfl⟩, hW, hsame.mono (by decide) (by decide)⟩
          · show Steps p.tables e below (T21.setTop (mkF m 56 #[.val (.int p1), .val (.int (p1 &&& (3 : Int32))), .val (.ref w_UNKNOWN), .val (.int (0 : Int32))] [(.int (0 : Int32)), (.int (f1 w_UNKNOWN w_OPTIMAL w_FEASIBLE))])) _
            refine XS.icmpNo X21.here hx rfl (hb hby at_56) rfl (teq hc23).2 ?_
            show Steps p.tables e below (T21.setTop (mkF m 59 _ [])) _
            refine XS.iconst X21.here hx rfl (hb hby at_59) ?_
            show Steps p.tables e below (T21.setTop (mkF m 60 _ [(.int (1 : Int32))])) _
            refine XS.goto X21.here hx rfl (pc0 := 60) (pc' := 64) rfl (hb hby at_60) (by decide) (by decide) ?_
            show Steps p.tables e below (T21.setTop (mkF m 64 #[.val (.int p1), .val (.int (p1 &&& (3 : Int32))), .val (.ref w_UNKNOWN), .val (.int (0 : Int32))] [(.int (1 : Int32))])) _
            exact retN X21 hx (t := .boolean) Bd.returns (by simp) (hb hby at_64) hr
          · show Q0 Z p1 w_OPTIMAL w_FEASIBLE w_INFEASIBLE w_UNKNOWN h0 n0 _ T21.heap _
            rw [e21]
            exact ⟨congrArg (fun z => some (Value.int z)) (by rw [f0, if_neg hc3, if_neg hc9, if_neg hc15, if_pos hc23] : f0 p1 w_OPTIMAL w_FEASIBLE w_INFEASIBLE w_UNKNOWN = (1 : Int32)).symm, N21⟩
        · skip
          obtain ⟨fs, hr, hrun, hended, hW, hsame⟩ := X21.leave (v := some (.int (0 : Int32))) (fun h => by rw [Bd.returns] at h; cases h)
          refine ⟨_, _, pre22 _ ?_, hrun, hended, _, _, rfl, ?_, ⟨_, rfl⟩, hW, hsame.mono (by decide) (by decide)⟩
          · show Steps p.tables e below (T21.setTop (mkF m 56 #[.val (.int p1), .val (.int (p1 &&& (3 : Int32))), .val (.ref w_UNKNOWN), .val (.int (0 : Int32))] [(.int (0 : Int32)), (.int (f1 w_UNKNOWN w_OPTIMAL w_FEASIBLE))])) _
            refine XS.icmpYes X21.here hx rfl (pc0 := 56) (pc' := 63) rfl (hb hby at_56) rfl (feq hc23).2 (by decide) (by decide) ?_
            show Steps p.tables e below (T21.setTop (mkF m 63 _ [])) _
            refine XS.iconst X21.here hx rfl (hb hby at_63) ?_
            show Steps p.tables e below (T21.setTop (mkF m 64 #[.val (.int p1), .val (.int (p1 &&& (3 : Int32))), .val (.ref w_UNKNOWN), .val (.int (0 : Int32))] [(.int (0 : Int32))])) _
            exact retN X21 hx (t := .boolean) Bd.returns (by simp) (hb hby at_64) hr
          · show Q0 Z p1 w_OPTIMAL w_FEASIBLE w_INFEASIBLE w_UNKNOWN h0 n0 _ T21.heap _
            rw [e21]
            exact ⟨congrArg (fun z => some (Value.int z)) (by rw [f0, if_neg hc3, if_neg hc9, if_neg hc15, if_neg hc23] : f0 p1 w_OPTIMAL w_FEASIBLE w_INFEASIBLE w_UNKNOWN = (0 : Int32)).symm, N21⟩
theorem own_plain (p1 : Int32) (w_OPTIMAL : Addr) (w_FEASIBLE : Addr) (w_INFEASIBLE : Addr) (w_UNKNOWN : Addr) (ne_INFEASIBLE_OPTIMAL : w_INFEASIBLE ≠ w_OPTIMAL) (ne_INFEASIBLE_FEASIBLE : w_INFEASIBLE ≠ w_FEASIBLE) (ne_UNKNOWN_OPTIMAL : w_UNKNOWN ≠ w_OPTIMAL) (ne_UNKNOWN_FEASIBLE : w_UNKNOWN ≠ w_FEASIBLE) : f0 p1 w_OPTIMAL w_FEASIBLE w_INFEASIBLE w_UNKNOWN = 1 := by
  unfold f0 f1
  (repeat' split) <;> simp_all
set_option maxRecDepth 65536 in
set_option maxHeartbeats 40000000 in
theorem comes_1 {Post : Tables → Env → Array Value → State → Outcome → State → Prop} (hpost : ∀ tb e args s v u, (limb_1_1.after args s (.returned v) u = true ∧ limb_1_2.after args s (.returned v) u = true ∧ True) → FrameEnd s (.returned v) u (Jvm.fieldLocs frame_1_writes args s ++ Jvm.arrayLocs frame_1_arrays args s ++ Jvm.staticLocs frame_1_statics s) 0 0 → Post tb e args s (.returned v) u) :
    ArmFor flags0 classFile x code maxLocals ret World_1 tables_1 room_1 Calls_1 rest_1 Pre_1 Post := by
  intro l hfl _ _ p e ha hc hk s m args below hf hA hF happ hP
  obtain ⟨hcalls, hrest, hpre⟩ := hP
  obtain ⟨-, -, -, hnamed, -, -, -, hat⟩ := (Spec.applies_iff hf).mp happ
  obtain ⟨hg, hn⟩ := and_e (Cond.before_iff.mp (show (Jvm.Cond.and given_1 narrow_1).before args s = true from hpre))
  obtain ⟨gc, hg⟩ := and_e hg
  obtain ⟨w0, rfl⟩ : ∃ w0 : Value, args = #[w0] := by
    have hs : args.size = 1 := by simpa [Cond.value, given_1] using gc
    obtain ⟨L⟩ := args
    match L, hs with
    | [w0], _ => exact ⟨w0, rfl⟩
  have hw := fun d (hd : d ∈ tables_1) => atoms_spec (ws := Jvm.Cond.code x code maxLocals ret :: tables_1) hat d (List.mem_cons_of_mem _ hd)
  obtain ⟨i0, ei0⟩ := is_v hg
  obtain rfl : w0 = (.int i0) := Option.some.inj ei0
  obtain ⟨nw0, hn⟩ := and_e hn
  obtain ⟨nw1, hn⟩ := and_e hn
  obtain ⟨nw2, hn⟩ := and_e hn
  obtain ⟨nw3, hn⟩ := and_e hn
  obtain ⟨nw4, hn⟩ := and_e hn
  obtain ⟨nw5, hn⟩ := and_e hn
  obtain ⟨nw6, hn⟩ := and_e hn
  have nw7 := hn
  obtain ⟨w_OPTIMAL, ev_OPTIMAL⟩ := exa_v nw0
  have E_w_OPTIMAL := Exa.start ev_OPTIMAL nw0
  have S_OPTIMAL := Sta.start ev_OPTIMAL (Or.inr ⟨(hw _ (List.mem_of_getElem? (i := 1) rfl)), (hw _ (List.mem_of_getElem? (i := 2) rfl))⟩)
  obtain ⟨w_UNKNOWN, ev_UNKNOWN⟩ := exa_v nw1
  have E_w_UNKNOWN := Exa.start ev_UNKNOWN nw1
  have S_UNKNOWN := Sta.start ev_UNKNOWN (Or.inr ⟨(hw _ (List.mem_of_getElem? (i := 1) rfl)), (hw _ (List.mem_of_getElem? (i := 10) rfl))⟩)
  obtain ⟨w_FEASIBLE, ev_FEASIBLE⟩ := exa_v nw4
  have E_w_FEASIBLE := Exa.start ev_FEASIBLE nw4
  have S_FEASIBLE := Sta.start ev_FEASIBLE (Or.inr ⟨(hw _ (List.mem_of_getElem? (i := 1) rfl)), (hw _ (List.mem_of_getElem? (i := 12) rfl))⟩)
  obtain ⟨w_INFEASIBLE, ev_INFEASIBLE⟩ := exa_v nw6
  have E_w_INFEASIBLE := Exa.start ev_INFEASIBLE nw6
  have S_INFEASIBLE := Sta.start ev_INFEASIBLE (Or.inr ⟨(hw _ (List.mem_of_getElem? (i := 1) rfl)), (hw _ (List.mem_of_getElem? (i := 14) rfl))⟩)
  have O_UNKNOWN := own_fld ev_UNKNOWN nw2
  have O_OPTIMAL := own_fld ev_OPTIMAL nw3
  have O_FEASIBLE := own_fld ev_FEASIBLE nw5
  have O_INFEASIBLE := own_fld ev_INFEASIBLE nw7
  have ne_INFEASIBLE_OPTIMAL : w_INFEASIBLE ≠ w_OPTIMAL := Fld.ne O_INFEASIBLE O_OPTIMAL (fun q => absurd (Value.int.inj q) (by decide))
  have ne_INFEASIBLE_FEASIBLE : w_INFEASIBLE ≠ w_FEASIBLE := Fld.ne O_INFEASIBLE O_FEASIBLE (fun q => absurd (Value.int.inj q) (by decide))
  have ne_UNKNOWN_OPTIMAL : w_UNKNOWN ≠ w_OPTIMAL := Fld.ne O_UNKNOWN O_OPTIMAL (fun q => absurd (Value.int.inj q) (by decide))
  have ne_UNKNOWN_FEASIBLE : w_UNKNOWN ≠ w_FEASIBLE := Fld.ne O_UNKNOWN O_FEASIBLE (fun q => absurd (Value.int.inj q) (by decide))
  obtain ⟨n, o, h1, h2, h3, vr, L, rfl, ⟨hvr, N⟩, hq⟩ := rm0 l s _ hw tables_1 i0 w_OPTIMAL w_FEASIBLE w_INFEASIBLE w_UNKNOWN s.heap s.heap.size (Nat.le_refl _) S_OPTIMAL S_FEASIBLE E_w_OPTIMAL E_w_FEASIBLE S_INFEASIBLE E_w_INFEASIBLE S_UNKNOWN E_w_UNKNOWN p e ha hc hk s m _ below hf ((Spec.applies_iff_loose hf).mp happ).1 ⟨rfl, State.Warmed39.refl s, rfl⟩ trivial
  have hpl : f0 i0 w_OPTIMAL w_FEASIBLE w_INFEASIBLE w_UNKNOWN = 1 := own_plain i0 w_OPTIMAL w_FEASIBLE w_INFEASIBLE w_UNKNOWN ne_INFEASIBLE_OPTIMAL ne_INFEASIBLE_FEASIBLE ne_UNKNOWN_OPTIMAL ne_UNKNOWN_FEASIBLE
  rw [hpl] at hvr
  subst hvr
  refine ⟨n, _, h1, h2, h3, hpost _ _ _ _ _ _ ⟨Cond.after_iff.mpr rfl, Cond.after_iff.mpr (eq_i res_at (Term.int_eval (1)) rfl), trivial⟩ ⟨hq.1, hq.2.1, (hq.2.2.sift fun y hy => Or.inr (N y hy)).mono (by decide) (by decide)⟩⟩
theorem main_1_1 : Claimed_1_1 := comes_1 fun _ _ _ _ _ _ h hF => ⟨h.1, hF⟩
theorem main_1_2 : Claimed_1_2 := comes_1 fun _ _ _ _ _ _ h hF => ⟨h.2.1, hF⟩

end Jvm.Pilot.@@N@@
namespace Jvm.Pilot.@@N@@
open Jvm Jvm.ClassFile Sem Op Lib Jvm.Free Jvm.Stand Jvm.Pilot.@@N@@.Jvm.D
/-! MADE BY PROGRAM (witnessworld.py) out of the Statement's table words and the real class files: 12 classes; the members and pool entries that the words name. The judged class is class 1, her method 1. -/
namespace start1
open Jvm.ClassFile
def u (s : String) : CpInfo := .utf8 (stringToUtf16 s)
/-- a pool by its gaps: so many unusable entries, then the entry; so many at the end -/
def gap : Nat → List CpInfo → List CpInfo
  | 0, r => r
  | n + 1, r => .unusable :: gap n r
def poolList (es : List (Nat × CpInfo)) (last : Nat) : List CpInfo := es.foldr (fun e r => gap e.1 (e.2 :: r)) (gap last [])
def pool (es : List (Nat × CpInfo)) (last : Nat) : Array CpInfo := ⟨poolList es last⟩
def fileOf (pool : Array CpInfo) (this : Nat) (attrs : Array Attribute := #[]) (ms : Array MethodInfo := #[]) (fl : Nat := 33) (sup : Nat := 0) (ifs : Array Nat := #[]) (fds : Array FieldInfo := #[]) : ClassFile where
  minorVersion := 0
  majorVersion := 65
  constantPool := pool
  accessFlags := fl
  thisClass := this
  superClass := sup
  interfaces := ifs
  fields := fds
  methods := ms
  attributes := attrs
def plain (name : String) (sup : Option ClassId) : Class where
  name := name
  kind := .ordinary
  loader := none
  accessFlags := 33
  super := sup
  interfaces := #[]
  cf := none
  fields := #[]
  methods := #[]
  instanceTypes := #[]
  staticTypes := #[]
  resolved := #[]
  callSites := []
  init := .initialized
  statics := none
  mirror := none

def pool0 : Array CpInfo := pool [(5, u "<init>"), (0, u "()V"), (1, .class_ 10), (1, u "java/lang/Object")] 113

def k0m0 : Method := { name := "<init>", desc := "()V", sig := { parameters := [], returnType := none }, accessFlags := 1, code := none }
/-- java/lang/Object -/
def k0 : Class := { plain "java/lang/Object" none with
  accessFlags := 33
  interfaces := #[]
  cf := some (fileOf pool0 8 #[] #[{ accessFlags := 1, nameIndex := 5, descriptorIndex := 6, attributes := #[] }] 33 0 #[] #[])
  fields := #[]
  methods := #[k0m0]
  instanceTypes := #[]
  staticTypes := #[]
  resolved := Array.replicate 124 none
  statics := none }

def pool1 : Array CpInfo := pool [(2, .class_ 4), (1, u "java/lang/Object"), (0, u "<init>"), (0, u "()V"), (0, .fieldref 8 9), (0, .class_ 10), (0, .nameAndType 11 12), (0, u "com/example/releve/releve/Status"), (0, u "OPTIMAL"), (0, u "Lcom/example/releve/releve/Status;"), (0, .fieldref 8 14), (0, .nameAndType 15 12), (0, u "FEASIBLE"), (0, .fieldref 8 17), (0, .nameAndType 18 12), (0, u "INFEASIBLE"), (0, .fieldref 8 20), (0, .nameAndType 21 12), (0, u "UNKNOWN"), (0, .methodref 8 23), (0, .nameAndType 24 25), (0, u "hasSolution"), (0, u "()Z"), (0, .class_ 27), (0, u "com/example/releve/releve/StatusHasSolutionPinLaw"), (2, u "law"), (0, u "(I)Z")] 3

def k1m0 : Method := { name := "<init>", desc := "()V", sig := { parameters := [], returnType := none }, accessFlags := 1, code := none }
def k1c1 : Code := { maxStack := 2, maxLocals := 4, code := code, exceptionTable := #[], attributes := #[] }
def k1m1 : Method := { name := "law", desc := "(I)Z", sig := { parameters := [.int], returnType := some .boolean }, accessFlags := 9, code := some k1c1 }
/-- com/example/releve/releve/StatusHasSolutionPinLaw -/
def k1 : Class := { plain "com/example/releve/releve/StatusHasSolutionPinLaw" (some 0) with
  accessFlags := 49
  interfaces := #[]
  cf := some (fileOf pool1 26 #[] #[{ accessFlags := 1, nameIndex := 5, descriptorIndex := 6, attributes := #[] }, { accessFlags := 9, nameIndex := 30, descriptorIndex := 31, attributes := #[] }] 49 2 #[] #[])
  fields := #[]
  methods := #[k1m0, k1m1]
  instanceTypes := #[]
  staticTypes := #[]
  resolved := Array.replicate 35 none
  statics := none }

def pool2 : Array CpInfo := pool [(1, .class_ 2), (0, u "java/lang/constant/Constable"), (0, .class_ 4), (0, u "java/lang/Object")] 6

/-- java/lang/constant/Constable -/
def k2 : Class := { plain "java/lang/constant/Constable" (some 0) with
  accessFlags := 1537
  interfaces := #[]
  cf := some (fileOf pool2 1 #[] #[] 1537 3 #[] #[])
  fields := #[]
  methods := #[]
  instanceTypes := #[]
  staticTypes := #[]
  resolved := Array.replicate 11 none
  statics := none }

def pool3 : Array CpInfo := pool [(1, .class_ 2), (0, u "java/lang/Comparable"), (0, .class_ 4), (0, u "java/lang/Object")] 7

/-- java/lang/Comparable -/
def k3 : Class := { plain "java/lang/Comparable" (some 0) with
  accessFlags := 1537
  interfaces := #[]
  cf := some (fileOf pool3 1 #[] #[] 1537 3 #[] #[])
  fields := #[]
  methods := #[]
  instanceTypes := #[]
  staticTypes := #[]
  resolved := Array.replicate 12 none
  statics := none }

def pool4 : Array CpInfo := pool [(1, .class_ 2), (0, u "java/io/Serializable"), (0, .class_ 4), (0, u "java/lang/Object")] 2

/-- java/io/Serializable -/
def k4 : Class := { plain "java/io/Serializable" (some 0) with
  accessFlags := 1537
  interfaces := #[]
  cf := some (fileOf pool4 1 #[] #[] 1537 3 #[] #[])
  fields := #[]
  methods := #[]
  instanceTypes := #[]
  staticTypes := #[]
  resolved := Array.replicate 7 none
  statics := none }

def pool5 : Array CpInfo := pool [(2, .class_ 4), (1, u "java/lang/Enum"), (0, u "name"), (0, u "Ljava/lang/String;"), (2, u "ordinal"), (0, u "I"), (1, .class_ 14), (1, u "java/lang/Object"), (4, u "hash"), (86, .class_ 108), (1, u "java/lang/Enum$EnumDesc"), (2, .class_ 112), (0, u "java/lang/constant/Constable"), (0, .class_ 114), (0, u "java/lang/Comparable"), (0, .class_ 116), (0, u "java/io/Serializable")] 87

/-- java/lang/Enum -/
def k5 : Class := { plain "java/lang/Enum" (some 0) with
  accessFlags := 1057
  interfaces := #[2, 3, 4]
  cf := some (fileOf pool5 2 #[.nestMembers #[106]] #[] 1057 12 #[111, 113, 115] #[{ accessFlags := 18, nameIndex := 5, descriptorIndex := 6, attributes := #[] }, { accessFlags := 18, nameIndex := 9, descriptorIndex := 10, attributes := #[] }, { accessFlags := 2, nameIndex := 19, descriptorIndex := 10, attributes := #[] }])
  fields := #[{ name := "name", type := (.object "java/lang/String"), accessFlags := 18, slot := 0, constantValue := 0 }, { name := "ordinal", type := .int, accessFlags := 18, slot := 1, constantValue := 0 }, { name := "hash", type := .int, accessFlags := 2, slot := 2, constantValue := 0 }]
  methods := #[]
  instanceTypes := #[(.object "java/lang/String"), .int, .int]
  staticTypes := #[]
  resolved := Array.replicate 204 none
  statics := none }

def pool6 : Array CpInfo := pool [(1, .class_ 2), (0, u "com/example/releve/releve/Status"), (0, .fieldref 1 4), (0, .nameAndType 5 6), (0, u "OPTIMAL"), (0, u "Lcom/example/releve/releve/Status;"), (0, .fieldref 1 8), (0, .nameAndType 9 6), (0, u "FEASIBLE"), (2, u "INFEASIBLE"), (2, u "UNKNOWN"), (2, u "$VALUES"), (0, u "[Lcom/example/releve/releve/Status;"), (6, .class_ 28), (1, u "java/lang/Enum"), (22, u "hasSolution"), (0, u "()Z")] 5

def k6c0 : Code := { maxStack := 2, maxLocals := 1, code := prog_72_method_4_code, exceptionTable := #[], attributes := #[] }
def k6m0 : Method := { name := "hasSolution", desc := "()Z", sig := { parameters := [], returnType := some .boolean }, accessFlags := 0, code := some k6c0 }
/-- com/example/releve/releve/Status -/
def k6 : Class := { plain "com/example/releve/releve/Status" (some 5) with
  accessFlags := 16432
  interfaces := #[]
  cf := some (fileOf pool6 1 #[] #[{ accessFlags := 0, nameIndex := 51, descriptorIndex := 52, attributes := #[] }] 16432 26 #[] #[{ accessFlags := 16409, nameIndex := 5, descriptorIndex := 6, attributes := #[] }, { accessFlags := 16409, nameIndex := 9, descriptorIndex := 6, attributes := #[] }, { accessFlags := 16409, nameIndex := 12, descriptorIndex := 6, attributes := #[] }, { accessFlags := 16409, nameIndex := 15, descriptorIndex := 6, attributes := #[] }, { accessFlags := 4122, nameIndex := 18, descriptorIndex := 19, attributes := #[] }])
  fields := #[{ name := "OPTIMAL", type := (.object "com/example/releve/releve/Status"), accessFlags := 16409, slot := 0, constantValue := 0 }, { name := "FEASIBLE", type := (.object "com/example/releve/releve/Status"), accessFlags := 16409, slot := 1, constantValue := 0 }, { name := "INFEASIBLE", type := (.object "com/example/releve/releve/Status"), accessFlags := 16409, slot := 2, constantValue := 0 }, { name := "UNKNOWN", type := (.object "com/example/releve/releve/Status"), accessFlags := 16409, slot := 3, constantValue := 0 }, { name := "$VALUES", type := (.array (.object "com/example/releve/releve/Status")), accessFlags := 4122, slot := 4, constantValue := 0 }]
  methods := #[k6m0]
  instanceTypes := #[(.object "java/lang/String"), .int, .int]
  staticTypes := #[(.object "com/example/releve/releve/Status"), (.object "com/example/releve/releve/Status"), (.object "com/example/releve/releve/Status"), (.object "com/example/releve/releve/Status"), (.array (.object "com/example/releve/releve/Status"))]
  resolved := Array.replicate 58 none
  statics := some 0 }

def pool7 : Array CpInfo := pool [(1, u "java/lang/Cloneable"), (0, .class_ 1), (0, u "java/lang/Object"), (0, .class_ 3)] 3

/-- java/lang/Cloneable -/
def k7 : Class := { plain "java/lang/Cloneable" (some 0) with
  accessFlags := 1537
  interfaces := #[]
  cf := some (fileOf pool7 2 #[] #[] 1537 4 #[] #[])
  fields := #[]
  methods := #[]
  instanceTypes := #[]
  staticTypes := #[]
  resolved := Array.replicate 8 none
  statics := none }

/-- the primitive byte -/
def k8 : Class := { plain "byte" none with kind := .primitive 'B', accessFlags := 0x411 }
/-- [B -/
def k9 : Class := { plain "[B" (some 0) with kind := .array 8 .byte, interfaces := #[7, 4], accessFlags := 1041 }

/-- the primitive int -/
def k10 : Class := { plain "int" none with kind := .primitive 'I', accessFlags := 0x411 }
/-- [I -/
def k11 : Class := { plain "[I" (some 0) with kind := .array 10 .int, interfaces := #[7, 4], accessFlags := 1041 }

def heap : Heap := #[{ cls := 6, slots := #[.ref 1, .ref 2, .ref 3, .ref 4, .null], vm := .statics 6 },
  { cls := 6, slots := #[.null, .int 0, .int 0], vm := .none },
  { cls := 6, slots := #[.null, .int 1, .int 0], vm := .none },
  { cls := 6, slots := #[.null, .int 2, .int 0], vm := .none },
  { cls := 6, slots := #[.null, .int 3, .int 0], vm := .none }]
def classes : Array Class := #[k0, k1, k2, k3, k4, k5, k6, k7, k8, k9, k10, k11]
def interned : List (Array UInt16 × Addr) := []
def slotsUsed : Nat := 17
def theMethod : MethodId := ⟨1, 1⟩
def args0 : Array Value := #[.int 5]
def aboutOver (below : List Frame) : State where
  vm := { classes := classes, interned := interned.toArray }
  heap := heap
  slotsUsed := slotsUsed
  threads := #[{ frames := .invoking theMethod args0 :: below }]
def below0 : List Frame := [.native { method := ⟨0, 0⟩, args := #[] }]
def about1 : State := aboutOver below0
def p0 : Program := .bare "" "" ""
def e0 : Env := launch0.env 0 0 0
theorem w_frames : about1.frames = Frame.invoking theMethod args0 :: below0 := rfl
set_option maxRecDepth 65536 in
theorem w_args : argsFit about1.vm theMethod args0 = true := by decide +kernel
set_option maxRecDepth 65536 in
theorem w_heap : heapFits about1 = true := by decide +kernel
set_option maxRecDepth 65536 in
theorem w_runnable : about1.curStatus? = some .runnable := by decide +kernel
set_option maxRecDepth 65536 in
theorem w_alone : about1.alone = true := by decide +kernel
set_option maxRecDepth 65536 in
theorem w_named : about1.methodNamed? x = some theMethod := by decide +kernel
set_option maxRecDepth 65536 in
theorem w_hears : about1.hears theMethod below0 = true := by decide +kernel
set_option maxRecDepth 65536 in
theorem w_ripe : about1.ripe theMethod args0 below0 = true := by decide +kernel
theorem w_running : about1.status = .running := rfl
set_option maxRecDepth 65536 in
theorem w_room : about1.hasRoom e0.platform room_1 = true :=
  launch0.hasRoom_least _ room_1 (by decide +kernel) (by decide +kernel) (by decide +kernel) (by decide +kernel) (by decide +kernel) (by decide +kernel)
theorem allAtoms_all (ts : List Jvm.Cond) (a : Array Jvm.Value) (st : Jvm.State) : (allAtoms ts).before a st = ts.all (fun c => c.before a st) := by
  induction ts with
  | nil => rfl
  | cons c t ih =>
    show (Jvm.Cond.and c (allAtoms t)).before a st = _
    rw [Jvm.Cond.before_and, ih, List.all_cons]
def words1 : List Jvm.Cond := Jvm.Cond.code x code maxLocals ret :: tables_1
/-- a 'code' word, met by the world's own term for the bytes: nothing is compared byte by byte -/
theorem code_word {y : MethodName} {bytes : ByteArray} {mx : Nat} {rt : Option FieldType} {a : Array Value} {s : State} {m : MethodId} {meth : Method} {c : Code} (h1 : s.methodNamed? y = some m) (h2 : s.vm.method? m = some meth) (h3 : meth.code = some c) (h4 : c.code = bytes)
    (h5 : (c.maxLocals == mx && c.exceptionTable.isEmpty && decide (c.maxStack ≤ mostOperands) && decide (meth.sig.returnType = rt) && !meth.locks && decide (parseMethodDescriptor y.desc = some meth.sig)) = true) : (Jvm.Cond.code y bytes mx rt).before a s = true := by
  simp only [Bool.and_eq_true, beq_iff_eq, Bool.not_eq_true', decide_eq_true_eq] at h5
  obtain ⟨⟨⟨⟨⟨g1, g2⟩, g3⟩, g4⟩, g5⟩, g6⟩ := h5
  simp [Cond.before, Cond.holds, Cond.value, h1, h2, h3, h4, g1, g2, g3, g4, g5, g6]
def isCode : Jvm.Cond → Bool
  | .code _ _ _ _ => true
  | _ => false
theorem all_split {L : List Jvm.Cond} {P : Jvm.Cond → Bool} (h1 : L.all (fun c => isCode c || P c) = true) (h2 : ∀ c ∈ L.filter isCode, P c = true) : L.all P = true := by
  refine List.all_eq_true.mpr fun c hc => ?_
  have h := List.all_eq_true.mp h1 c hc
  rcases Bool.eq_false_or_eq_true (isCode c) with hi | hi
  · exact h2 c (List.mem_filter.mpr ⟨hc, hi⟩)
  · simpa [hi] using h
set_option maxRecDepth 65536 in
theorem w_c0 : (Jvm.Cond.code x code maxLocals ret).before args0 about1 = true := code_word (m := ⟨1, 1⟩) (meth := k1m1) (c := k1c1) (by decide +kernel) rfl rfl rfl (by decide +kernel)
set_option maxRecDepth 65536 in
theorem w_c1 : (Jvm.Cond.code ({ cls := "com/example/releve/releve/Status", name := "hasSolution", desc := "()Z" } : Jvm.MethodName) prog_72_method_4_code (1 : Nat) (Option.some Jvm.ClassFile.FieldType.boolean)).before args0 about1 = true := code_word (m := ⟨6, 0⟩) (meth := k6m0) (c := k6c0) (by decide +kernel) rfl rfl rfl (by decide +kernel)
def codes1 : List Jvm.Cond := [Jvm.Cond.code x code maxLocals ret, Jvm.Cond.code ({ cls := "com/example/releve/releve/Status", name := "hasSolution", desc := "()Z" } : Jvm.MethodName) prog_72_method_4_code (1 : Nat) (Option.some Jvm.ClassFile.FieldType.boolean)]
set_option maxRecDepth 65536 in
theorem codes_eq : words1.filter isCode = codes1 := rfl
theorem w_codes : ∀ c ∈ words1.filter isCode, c.before args0 about1 = true := by
  rw [codes_eq]
  intro c hc
  simp only [codes1, List.mem_cons, List.not_mem_nil, or_false] at hc
  rcases hc with rfl | rfl
  · exact w_c0
  · exact w_c1
set_option maxRecDepth 65536 in
theorem w_t1 : words1.all (fun c => isCode c || c.before args0 about1) = true := by decide +kernel
theorem w_tables : (allAtoms (Jvm.Cond.code x code maxLocals ret :: tables_1)).before args0 about1 = true := by
  rw [allAtoms_all]
  show words1.all (fun c => c.before args0 about1) = true
  refine all_split ?_ w_codes
  rw [w_t1]
set_option maxRecDepth 65536 in
theorem w_case : (Jvm.Cond.and given_1 narrow_1).before args0 about1 = true := by decide +kernel
theorem w_applies : (headSpec (Jvm.Cond.code x code maxLocals ret :: tables_1) room_1).applies x e0.platform about1 = true :=
  (Spec.applies_iff w_frames).mpr ⟨w_running, w_runnable, w_alone, w_named, w_hears, w_ripe, w_room, w_tables⟩
theorem atStart : AtStart classFile x code maxLocals ret World_1 tables_1 room_1 Calls_1 rest_1 Pre_1 launch0 p0 e0 about1 theMethod args0 below0 :=
  ⟨lists_1, trivial, launch0.admits_env _ _ _, launch0.least_env, fairChoices_fair.cas, fairChoices_fair.clock, w_frames, w_args, w_heap, w_applies, trivial, trivial, w_case⟩
end start1
theorem witness_1 : WitnessClaimed_1 := ⟨start1.p0, start1.e0, start1.about1, start1.theMethod, start1.args0, start1.below0, start1.atStart⟩
end Jvm.Pilot.@@N@@
