import JvmDerived
import JvmDerived.Pilot.@@N@@Statement
import JvmDerived.Pilot.@@N@@Code
set_option linter.unusedVariables false
set_option linter.unusedSimpArgs false
@@BLOCK:NumsL.lean.txt@@
namespace Jvm.RoadKit
open Sem ClassFile Op Lib Jvm.Stand Jvm.Free Jvm.LawKit
section New
variable {p : Program} {l : Launch} {e : Env} {R : Room} {s : State} {m : MethodId} {args : Array Value} {below : List Frame} {meth : Method} {c : Code} {T : State} {locs : List Loc} {cells slots : Nat}
theorem retI (X : Stand p l e R s m args below meth c T locs cells slots) (hx : p.tables.exec = Jvm.exec) {pc : Nat} {Ls : Array Slot} {z : Int32} {rest : List Value} (hret : meth.sig.returnType = some .int) (hd : decode c.code pc = .ok (.ireturn, 1)) {fs : List Frame}
    (hl : ∀ (f : JFrame) (acts : List Action), f.method = m → f.locked = none → f.entered = [] → (doReturn e (T.setTop f) acts (some (.int z))).1 = T.setFrames fs) : Steps p.tables e below (T.setTop (mkF m pc Ls (.int z :: rest))) (T.setFrames fs) := by
  have hm' : T.vm.method? m = some meth := X.method'
  have hn : narrow .int (.int z) = .int z := rfl
  show Steps p.tables e below (T.setTop { method := m, pc := pc, locals := Ls, stack := _ :: rest, locked := none }) _
  jvm_step X.here [X.here.top, hx, hd, hm', hret, hn]
  first | (intro acts; rw [hl _ acts rfl rfl rfl]) | rw [hl _ _ rfl rfl rfl]
  exact Steps.refl _
end New
end Jvm.RoadKit
namespace Jvm.Pilot.@@N@@
open Jvm Jvm.ClassFile Sem Op Lib Jvm.Free Jvm.Stand Jvm.LawKit Jvm.RoadKit Bundle Jvm.Pilot.@@N@@.Jvm.D
theorem own_nz_J {x : Int64} (h : (0 : Int64) < x) : ¬ (x = (0 : Int64)) := by rintro rfl; exact absurd h (by decide)
theorem own_nz_I {x : Int32} (h : (0 : Int32) < x) : ¬ (x = (0 : Int32)) := by rintro rfl; exact absurd h (by decide)
theorem own_fld {s : State} {args : Array Value} {tt : Term} {a : Addr} {C n d : String} {k : Int32} (ev : tt.eval args s none [] s = some (.ref a)) (h : (Jvm.Cond.eq (.field tt C n d) (.int k)).value args s none s [] = some true) : Fld s s.heap a C n d (.int k) := by
  obtain ⟨u, v, hu, hv, k1, k2⟩ := cmp_v (Or.inl h)
  have hv' : v = .int k := (Option.some.inj (hv.symm.trans (Term.int_eval k)))
  subst hv'
  obtain ⟨z, rfl⟩ := k2
  have hz := gotT (Cond.eq_ints hu hv) h
  subst hz
  exact Fld.start (by rw [← fld_at ev]; exact hu)
def own_at (vs : List Int32) (j : Int32) : Int32 := vs.getD j.toNatClampNeg 0
def own_atL (vs : List Int64) (j : Int32) : Int64 := vs.getD j.toNatClampNeg 0
theorem own_getD (vs : List Int32) (j : Int32) : (vs.map Value.int).getD j.toNatClampNeg (.int (0 : Int32)) = .int (own_at vs j) := by
  unfold own_at
  generalize j.toNatClampNeg = k
  induction vs generalizing k with
  | nil => rfl
  | cons a t ih => cases k with
    | zero => rfl
    | succ k => simpa using ih k
theorem own_getDL (vs : List Int64) (j : Int32) : (vs.map Value.long).getD j.toNatClampNeg (.long (0 : Int64)) = .long (own_atL vs j) := by
  unfold own_atL
  generalize j.toNatClampNeg = k
  induction vs generalizing k with
  | nil => rfl
  | cons a t ih => cases k with
    | zero => rfl
    | succ k => simpa using ih k
theorem d2_0 : decode jdk_30_method_1_code 0 = .ok (.aload_n 0, 1) := by decide +kernel
theorem d2_1 : decode jdk_30_method_1_code 1 = .ok (.invokespecial 1, 3) := by decide +kernel
theorem d2_4 : decode jdk_30_method_1_code 4 = .ok (.return_, 1) := by decide +kernel
theorem pn_2 : plainName "java/lang/Record" = true := by first | (simp [plainName, overriddenIn]; done) | decide +kernel
theorem ef_2 (m : MethodId) (x0 : Addr) : entryFrame m #[(.ref x0)] 1 = mkF m 0 #[.val (.ref x0)] [] := by first | (simp [entryFrame, mkF, argsToLocals, Value.category]; done) | rfl
def Q2 (Z : State) (a1 : Addr) (h0 : Heap) (n0 : Nat) (v : Option Value) (h : Heap) (L : List Loc) : Prop := v = none ∧ Fr n0 L ∧ h = h0
set_option maxRecDepth 65536 in
set_option maxHeartbeats 40000000 in
theorem rm2 (l : Launch) (Z : State) (a0 : Array Value) (hw : ∀ d ∈ tables_1, d.before a0 Z = true) (ws : List Jvm.Cond) (a1 : Addr) (h0 : Heap) (n0 : Nat) (Z0 : n0 ≤ h0.size) :
    MetFree l (⟨"java/lang/Record", "<init>", "()V"⟩ : MethodName) (head1 (Jvm.Cond.code (⟨"java/lang/Record", "<init>", "()V"⟩ : MethodName) jdk_30_method_1_code 1 none :: ws) ({ frames := 1, cells := 0, slots := 0, locals := 12 } : Room)) (fun a U => a = #[(.ref a1)] ∧ Z.Warmed39 U.vm ∧ U.heap = h0) (fun _ _ _ _ _ => True) (fun _ U o U' => ∃ v L, o = .returned v ∧ Q2 Z a1 h0 n0 v U'.heap L ∧ FrameEnd U o U' L ({ frames := 1, cells := 0, slots := 0, locals := 12 } : Room).cells ({ frames := 1, cells := 0, slots := 0, locals := 12 } : Room).slots) := by
  refine MetFree.of_bodySF (plainFor_of_name pn_2) hisR ?_
  intro p e s m args below meth c s₁ Bd hml0 hP hK
  obtain ⟨rfl, hZ, hh⟩ := hP
  have hx := Bd.exec
  have hby := Bd.bytes
  have hml : c.maxLocals = 1 := hml0
  have hown : s.vm.findClass "java/lang/Record" = some m.cls := findClass_of_methodNamed Bd.named
  have hnm := (name_of_methodNamed Bd.named Bd.method).1
  have X0 : Stand p l e ({ frames := 1, cells := 0, slots := 0, locals := 12 } : Room) s m #[(.ref a1)] below meth c s₁ [] 0 0 := Stand.of_body Bd
  have e0 : s₁.heap = h0 := by rw [← hh, Bd.state]; rfl
  have N0 := Fr.nil n0
  have pre0 : ∀ t, Steps p.tables e below (s₁.setTop (mkF m 0 #[.val (.ref a1)] [])) t → Steps p.tables e below (s₁.setTop (entryFrame m #[(.ref a1)] 1)) t := fun t k => castTop (ef_2 m a1) k
  obtain ⟨T2, X2, e2, st2⟩ := initO X0 hx hZ hown (hw _ (List.mem_of_getElem? (i := 11) rfl)) (hw _ (List.mem_of_getElem? (i := 12) rfl)) (hw _ (List.mem_of_getElem? (i := 13) rfl)) e0 (g := (mkF m 1 #[.val (.ref a1)] [(.ref a1)])) rfl (by rw [hml]; rfl) rfl (hb hby d2_1) (by decide) (W := 0) (by show 2 * 0 + _ ≤ _; exact Nat.le_of_eq rfl) (by decide)
  obtain ⟨fs, hr, hrun, hended, hW, hsame⟩ := X2.leave (v := none) (fun _ => rfl) (by first | exact BodyLoose.notSynchronized Bd | exact Body.notSynchronized Bd)
  refine ⟨_, _, pre0 _ ?_, hrun, hended, _, _, rfl, ?_, ⟨_, rfl⟩, hW, hsame.mono (by decide) (by decide)⟩
  · show Steps p.tables e below (s₁.setTop (mkF m 0 #[.val (.ref a1)] [])) _
    refine XS.aloadN X0.here hx rfl (hb hby d2_0) rfl rfl ?_
    show Steps p.tables e below (s₁.setTop (mkF m 1 _ [(.ref a1)])) _
    refine st2 _ ?_
    show Steps p.tables e below (T2.setTop (mkF m 4 #[.val (.ref a1)] [])) _
    exact X2.returnOut hx Bd.returns (hb hby d2_4) hr
  · show Q2 Z a1 h0 n0 _ T2.heap _
    rw [e2]
    exact ⟨rfl, N0, rfl⟩
theorem d1_0 : decode prog_32_method_1_code 0 = .ok (.aload_n 0, 1) := by decide +kernel
theorem d1_1 : decode prog_32_method_1_code 1 = .ok (.invokespecial 1, 3) := by decide +kernel
theorem d1_4 : decode prog_32_method_1_code 4 = .ok (.aload_n 0, 1) := by decide +kernel
theorem d1_5 : decode prog_32_method_1_code 5 = .ok (.lload_n 1, 1) := by decide +kernel
theorem d1_6 : decode prog_32_method_1_code 6 = .ok (.putfield 7, 3) := by decide +kernel
theorem d1_9 : decode prog_32_method_1_code 9 = .ok (.aload_n 0, 1) := by decide +kernel
theorem d1_10 : decode prog_32_method_1_code 10 = .ok (.lload_n 3, 1) := by decide +kernel
theorem d1_11 : decode prog_32_method_1_code 11 = .ok (.putfield 13, 3) := by decide +kernel
theorem d1_14 : decode prog_32_method_1_code 14 = .ok (.return_, 1) := by decide +kernel
theorem pn_1 : plainName "com/example/releve/releve/LinearModel$Variable" = true := by first | (simp [plainName, overriddenIn]; done) | decide +kernel
theorem pd_1_1 : parseMethodDescriptor "()V" = some ⟨[], none⟩ := by decide +kernel
theorem ef_1 (m : MethodId) (x0 : Addr) (x1 : Int64) (x2 : Int64) : entryFrame m #[(.ref x0), (.long x1), (.long x2)] 5 = mkF m 0 #[.val (.ref x0), .val (.long x1), .second, .val (.long x2), .second] [] := by first | (simp [entryFrame, mkF, argsToLocals, Value.category]; done) | rfl
def Q1 (Z : State) (a1 : Addr) (q2 : Int64) (q3 : Int64) (u_lower_a1 : Value) (u_upper_a1 : Value) (h0 : Heap) (n0 : Nat) (v : Option Value) (h : Heap) (L : List Loc) : Prop := v = none ∧ Fr n0 L ∧ Keep h0 h [a1] ∧ Exa Z h a1 "com/example/releve/releve/LinearModel$Variable" ∧ Fld Z h a1 "com/example/releve/releve/LinearModel$Variable" "lower" "J" (.long q2) ∧ Fld Z h a1 "com/example/releve/releve/LinearModel$Variable" "upper" "J" (.long q3)
set_option maxRecDepth 65536 in
set_option maxHeartbeats 40000000 in
theorem rm1 (l : Launch) (Z : State) (a0 : Array Value) (hw : ∀ d ∈ tables_1, d.before a0 Z = true) (ws : List Jvm.Cond) (a1 : Addr) (q2 : Int64) (q3 : Int64) (u_lower_a1 : Value) (u_upper_a1 : Value) (h0 : Heap) (n0 : Nat) (Z0 : n0 ≤ h0.size) (E_a1 : Exa Z h0 a1 "com/example/releve/releve/LinearModel$Variable") (F_lower_a1 : Fld Z h0 a1 "com/example/releve/releve/LinearModel$Variable" "lower" "J" u_lower_a1) (F_upper_a1 : Fld Z h0 a1 "com/example/releve/releve/LinearModel$Variable" "upper" "J" u_upper_a1) (g_a1 : n0 ≤ a1) :
    MetFree l (⟨"com/example/releve/releve/LinearModel$Variable", "<init>", "(JJ)V"⟩ : MethodName) (head1 (Jvm.Cond.code (⟨"com/example/releve/releve/LinearModel$Variable", "<init>", "(JJ)V"⟩ : MethodName) prog_32_method_1_code 5 none :: ws) ({ frames := 2, cells := 0, slots := 0, locals := 24 } : Room)) (fun a U => a = #[(.ref a1), (.long q2), (.long q3)] ∧ Z.Warmed39 U.vm ∧ U.heap = h0) (fun _ _ _ _ _ => True) (fun _ U o U' => ∃ v L, o = .returned v ∧ Q1 Z a1 q2 q3 u_lower_a1 u_upper_a1 h0 n0 v U'.heap L ∧ FrameEnd U o U' L ({ frames := 2, cells := 0, slots := 0, locals := 24 } : Room).cells ({ frames := 2, cells := 0, slots := 0, locals := 24 } : Room).slots) := by
  refine MetFree.of_bodySF (plainFor_of_name pn_1) hisR ?_
  intro p e s m args below meth c s₁ Bd hml0 hP hK
  obtain ⟨rfl, hZ, hh⟩ := hP
  have hx := Bd.exec
  have hby := Bd.bytes
  have hml : c.maxLocals = 5 := hml0
  have hown : s.vm.findClass "com/example/releve/releve/LinearModel$Variable" = some m.cls := findClass_of_methodNamed Bd.named
  have hnm := (name_of_methodNamed Bd.named Bd.method).1
  have X0 : Stand p l e ({ frames := 2, cells := 0, slots := 0, locals := 24 } : Room) s m #[(.ref a1), (.long q2), (.long q3)] below meth c s₁ [] 0 0 := Stand.of_body Bd
  have e0 : s₁.heap = h0 := by rw [← hh, Bd.state]; rfl
  have N0 := Fr.nil n0
  have pre0 : ∀ t, Steps p.tables e below (s₁.setTop (mkF m 0 #[.val (.ref a1), .val (.long q2), .second, .val (.long q3), .second] [])) t → Steps p.tables e below (s₁.setTop (entryFrame m #[(.ref a1), (.long q2), (.long q3)] 5)) t := fun t k => castTop (ef_1 m a1 q2 q3) k
  obtain ⟨_, _, ⟨T4, L4, k4, n4⟩, -, X4, ⟨Lc4, hQ4, l4, y4, z4⟩, st4⟩ := X0.specialBack hx (y := (⟨"java/lang/Record", "<init>", "()V"⟩ : MethodName)) rfl hown (mvT hZ (hw _ (List.mem_of_getElem? (i := 6) rfl))) (mvT hZ (hw _ (List.mem_of_getElem? (i := 7) rfl))) (mvT hZ (hw _ (List.mem_of_getElem? (i := 10) rfl))) (by decide) (backOf (W := 0) (rm2 l Z a0 hw [] a1 h0 n0 Z0 ) hZ (hw _ (List.mem_of_getElem? (i := 10) rfl)) (hw _ (List.mem_of_getElem? (i := 9) rfl)) (by decide) (by decide)) (g := (mkF m 1 #[.val (.ref a1), .val (.long q2), .second, .val (.long q3), .second] [(.ref a1)])) rfl (by rw [hml]; rfl) (Steps.refl _) (a := a1) (argsL := []) (rest := []) (lenOf pd_1_1 rfl) rfl (by show 2 * 0 + _ ≤ _; exact Nat.le_of_eq rfl) (hb hby d1_1) (fun _ _ => ⟨rfl, e0, (by decide : 0 + 0 ≤ _), (by decide : 0 + 0 ≤ _)⟩)
  dsimp only [Pt.U, Pt.locs, Pt.cells, Pt.slots] at X4 l4 y4 z4 st4 hQ4
  subst l4 y4 z4
  obtain ⟨rfl, N4q, e4⟩ := hQ4
  have N4 := Fr.app N0 N4q
  obtain ⟨T5, h5, X5, e5, W5, st5⟩ := putF X4 hx hZ hown (host := "") (Or.inl (hw _ (List.mem_of_getElem? (i := 14) rfl))) Via.refl e4 F_lower_a1 E_a1 (Or.inr ⟨(hw _ (List.mem_of_getElem? (i := 15) rfl)), rfl, hnm⟩) (hw _ (List.mem_of_getElem? (i := 1) rfl)) (ty := .long) (by decide) rfl rfl (g := (mkF m 6 #[.val (.ref a1), .val (.long q2), .second, .val (.long q3), .second] [(.long q2), (.ref a1)])) rfl rfl (hb hby d1_6)
  have Fw5 := F_lower_a1.same W5
  have N5 := Fr.snoc X5 N4 g_a1
  have K5 : Keep h0 h5 [a1] := (Keep.refl h0 [a1]).wr W5 (Or.inl (List.mem_of_getElem? (i := 0) rfl))
  have F6 := (F_upper_a1.other W5 (Or.inr (slot_ne (Or.inr (hw _ (List.mem_of_getElem? (i := 17) rfl))) (Or.inr (hw _ (List.mem_of_getElem? (i := 15) rfl))) (by decide) (t := .long) (t' := .long) (by decide) (by decide))))
  have Ex7 := (E_a1.wr W5)
  have Zs8 : n0 ≤ h5.size := (Nat.le_trans Z0 (Keep.of_wr W5).1)
  obtain ⟨T9, h9, X9, e9, W9, st9⟩ := putF X5 hx hZ hown (host := "") (Or.inl (hw _ (List.mem_of_getElem? (i := 16) rfl))) Via.refl e5 F6 Ex7 (Or.inr ⟨(hw _ (List.mem_of_getElem? (i := 17) rfl)), rfl, hnm⟩) (hw _ (List.mem_of_getElem? (i := 1) rfl)) (ty := .long) (by decide) rfl rfl (g := (mkF m 11 #[.val (.ref a1), .val (.long q2), .second, .val (.long q3), .second] [(.long q3), (.ref a1)])) rfl rfl (hb hby d1_11)
  have Fw9 := F6.same W9
  have N9 := Fr.snoc X9 N5 g_a1
  have K9 : Keep h0 h9 [a1] := K5.wr W9 (Or.inl (List.mem_of_getElem? (i := 0) rfl))
  obtain ⟨fs, hr, hrun, hended, hW, hsame⟩ := X9.leave (v := none) (fun _ => rfl) (by first | exact BodyLoose.notSynchronized Bd | exact Body.notSynchronized Bd)
  refine ⟨_, _, pre0 _ ?_, hrun, hended, _, _, rfl, ?_, ⟨_, rfl⟩, hW, hsame.mono (by decide) (by decide)⟩
  · show Steps p.tables e below (s₁.setTop (mkF m 0 #[.val (.ref a1), .val (.long q2), .second, .val (.long q3), .second] [])) _
    refine XS.aloadN X0.here hx rfl (hb hby d1_0) rfl rfl ?_
    show Steps p.tables e below (s₁.setTop (mkF m 1 _ [(.ref a1)])) _
    refine st4.trans ?_
    show Steps p.tables e below (T4.setTop (mkF m 4 _ [])) _
    refine XS.aloadN X4.here hx rfl (hb hby d1_4) rfl rfl ?_
    show Steps p.tables e below (T4.setTop (mkF m 5 _ [(.ref a1)])) _
    refine XS.lloadN X4.here hx rfl (hb hby d1_5) rfl ?_
    show Steps p.tables e below (T4.setTop (mkF m 6 _ [(.long q2), (.ref a1)])) _
    refine st5 _ ?_
    show Steps p.tables e below (T5.setTop (mkF m 9 _ [])) _
    refine XS.aloadN X5.here hx rfl (hb hby d1_9) rfl rfl ?_
    show Steps p.tables e below (T5.setTop (mkF m 10 _ [(.ref a1)])) _
    refine XS.lloadN X5.here hx rfl (hb hby d1_10) rfl ?_
    show Steps p.tables e below (T5.setTop (mkF m 11 _ [(.long q3), (.ref a1)])) _
    refine st9 _ ?_
    show Steps p.tables e below (T9.setTop (mkF m 14 #[.val (.ref a1), .val (.long q2), .second, .val (.long q3), .second] [])) _
    exact X9.returnOut hx Bd.returns (hb hby d1_14) hr
  · show Q1 Z a1 q2 q3 u_lower_a1 u_upper_a1 h0 n0 _ T9.heap _
    rw [e9]
    have F10 := (Fw5.other W9 (Or.inr (slot_ne (Or.inr (hw _ (List.mem_of_getElem? (i := 15) rfl))) (Or.inr (hw _ (List.mem_of_getElem? (i := 17) rfl))) (by decide) (t := .long) (t' := .long) (by decide) (by decide))))
    have Ex11 := (Ex7.wr W9)
    have Zs12 : n0 ≤ h9.size := (Nat.le_trans Zs8 (Keep.of_wr W9).1)
    exact ⟨rfl, N9, K9, Ex11, F10, Fw9⟩
theorem d4_0 : decode prog_32_method_2_code 0 = .ok (.aload_n 0, 1) := by decide +kernel
theorem d4_1 : decode prog_32_method_2_code 1 = .ok (.getfield 7, 3) := by decide +kernel
theorem d4_4 : decode prog_32_method_2_code 4 = .ok (.lconst 0, 1) := by decide +kernel
theorem d4_5 : decode prog_32_method_2_code 5 = .ok (.lcmp, 1) := by decide +kernel
theorem d4_6 : decode prog_32_method_2_code 6 = .ok (.ifCond .ne 16, 3) := by decide +kernel
theorem d4_9 : decode prog_32_method_2_code 9 = .ok (.aload_n 0, 1) := by decide +kernel
theorem d4_10 : decode prog_32_method_2_code 10 = .ok (.getfield 13, 3) := by decide +kernel
theorem d4_13 : decode prog_32_method_2_code 13 = .ok (.lconst 1, 1) := by decide +kernel
theorem d4_14 : decode prog_32_method_2_code 14 = .ok (.lcmp, 1) := by decide +kernel
theorem d4_15 : decode prog_32_method_2_code 15 = .ok (.ifCond .ne 7, 3) := by decide +kernel
theorem d4_18 : decode prog_32_method_2_code 18 = .ok (.iconst 1, 1) := by decide +kernel
theorem d4_19 : decode prog_32_method_2_code 19 = .ok (.goto 4, 3) := by decide +kernel
theorem d4_22 : decode prog_32_method_2_code 22 = .ok (.iconst 0, 1) := by decide +kernel
theorem d4_23 : decode prog_32_method_2_code 23 = .ok (.ireturn, 1) := by decide +kernel
theorem pn_4 : plainName "com/example/releve/releve/LinearModel$Variable" = true := by first | (simp [plainName, overriddenIn]; done) | decide +kernel
theorem ef_4 (m : MethodId) (x0 : Addr) : entryFrame m #[(.ref x0)] 1 = mkF m 0 #[.val (.ref x0)] [] := by first | (simp [entryFrame, mkF, argsToLocals, Value.category]; done) | rfl
def f4 (w_lower_a1 : Int64) (w_upper_a1 : Int64) : Int32 := (if w_lower_a1 = (0 : Int64) then (if w_upper_a1 = (1 : Int64) then (1 : Int32) else (0 : Int32)) else (0 : Int32))
def Q4 (Z : State) (a1 : Addr) (w_lower_a1 : Int64) (w_upper_a1 : Int64) (h0 : Heap) (n0 : Nat) (v : Option Value) (h : Heap) (L : List Loc) : Prop := v = some (.int (f4 w_lower_a1 w_upper_a1)) ∧ Fr n0 L ∧ h = h0
set_option maxRecDepth 65536 in
set_option maxHeartbeats 40000000 in
theorem rm4 (l : Launch) (Z : State) (a0 : Array Value) (hw : ∀ d ∈ tables_1, d.before a0 Z = true) (ws : List Jvm.Cond) (a1 : Addr) (w_lower_a1 : Int64) (w_upper_a1 : Int64) (h0 : Heap) (n0 : Nat) (Z0 : n0 ≤ h0.size) (F_lower_a1 : Fld Z h0 a1 "com/example/releve/releve/LinearModel$Variable" "lower" "J" (.long w_lower_a1)) (F_upper_a1 : Fld Z h0 a1 "com/example/releve/releve/LinearModel$Variable" "upper" "J" (.long w_upper_a1)) :
    MetFree l (⟨"com/example/releve/releve/LinearModel$Variable", "isBoolean", "()Z"⟩ : MethodName) (head1 (Jvm.Cond.code (⟨"com/example/releve/releve/LinearModel$Variable", "isBoolean", "()Z"⟩ : MethodName) prog_32_method_2_code 1 (some .boolean) :: ws) ({ frames := 0, cells := 0, slots := 0, locals := 0 } : Room)) (fun a U => a = #[(.ref a1)] ∧ Z.Warmed39 U.vm ∧ U.heap = h0) (fun _ _ _ _ _ => True) (fun _ U o U' => ∃ v L, o = .returned v ∧ Q4 Z a1 w_lower_a1 w_upper_a1 h0 n0 v U'.heap L ∧ FrameEnd U o U' L ({ frames := 0, cells := 0, slots := 0, locals := 0 } : Room).cells ({ frames := 0, cells := 0, slots := 0, locals := 0 } : Room).slots) := by
  refine MetFree.of_bodySF (plainFor_of_name pn_4) hisR ?_
  intro p e s m args below meth c s₁ Bd hml0 hP hK
  obtain ⟨rfl, hZ, hh⟩ := hP
  have hx := Bd.exec
  have hby := Bd.bytes
  have hml : c.maxLocals = 1 := hml0
  have hown : s.vm.findClass "com/example/releve/releve/LinearModel$Variable" = some m.cls := findClass_of_methodNamed Bd.named
  have hnm := (name_of_methodNamed Bd.named Bd.method).1
  have X0 : Stand p l e ({ frames := 0, cells := 0, slots := 0, locals := 0 } : Room) s m #[(.ref a1)] below meth c s₁ [] 0 0 := Stand.of_body Bd
  have e0 : s₁.heap = h0 := by rw [← hh, Bd.state]; rfl
  have N0 := Fr.nil n0
  have pre0 : ∀ t, Steps p.tables e below (s₁.setTop (mkF m 0 #[.val (.ref a1)] [])) t → Steps p.tables e below (s₁.setTop (entryFrame m #[(.ref a1)] 1)) t := fun t k => castTop (ef_4 m a1) k
  obtain ⟨T2, X2, e2, st2⟩ := getF X0 hx hZ hown (host := "") (Or.inl (hw _ (List.mem_of_getElem? (i := 14) rfl))) Via.refl e0 F_lower_a1 (g := (mkF m 1 #[.val (.ref a1)] [(.ref a1)])) rfl rfl (hb hby d4_1)
  have pre3 : ∀ t, Steps p.tables e below (T2.setTop (mkF m 6 #[.val (.ref a1)] [(.int (lcmpW w_lower_a1 (0 : Int64)))])) t → Steps p.tables e below (s₁.setTop (entryFrame m #[(.ref a1)] 1)) t := fun t kt => by
    refine pre0 _ ?_
    show Steps p.tables e below (s₁.setTop (mkF m 0 #[.val (.ref a1)] [])) _
    refine XS.aloadN X0.here hx rfl (hb hby d4_0) rfl rfl ?_
    show Steps p.tables e below (s₁.setTop (mkF m 1 _ [(.ref a1)])) _
    refine st2 _ ?_
    show Steps p.tables e below (T2.setTop (mkF m 4 _ [(.long w_lower_a1)])) _
    refine XS.lconst X2.here hx rfl (hb hby d4_4) ?_
    show Steps p.tables e below (T2.setTop (mkF m 5 _ [(.long (0 : Int64)), (.long w_lower_a1)])) _
    refine XS.lcmp X2.here hx rfl (hb hby d4_5) rfl ?_
    exact kt
  by_cases hc4 : w_lower_a1 = (0 : Int64)
  · skip
    obtain ⟨T5, X5, e5, st5⟩ := getF X2 hx hZ hown (host := "") (Or.inl (hw _ (List.mem_of_getElem? (i := 16) rfl))) Via.refl e2 F_upper_a1 (g := (mkF m 10 #[.val (.ref a1)] [(.ref a1)])) rfl rfl (hb hby d4_10)
    have pre6 : ∀ t, Steps p.tables e below (T5.setTop (mkF m 15 #[.val (.ref a1)] [(.int (lcmpW w_upper_a1 (1 : Int64)))])) t → Steps p.tables e below (s₁.setTop (entryFrame m #[(.ref a1)] 1)) t := fun t kt => by
      refine pre3 _ ?_
      show Steps p.tables e below (T2.setTop (mkF m 6 #[.val (.ref a1)] [(.int (lcmpW w_lower_a1 (0 : Int64)))])) _
      refine XS.ifNo X2.here hx rfl (hb hby d4_6) rfl ((if0 _ _).trans (teq ((lw_eq _ _).mpr hc4)).2) ?_
      show Steps p.tables e below (T2.setTop (mkF m 9 _ [])) _
      refine XS.aloadN X2.here hx rfl (hb hby d4_9) rfl rfl ?_
      show Steps p.tables e below (T2.setTop (mkF m 10 _ [(.ref a1)])) _
      refine st5 _ ?_
      show Steps p.tables e below (T5.setTop (mkF m 13 _ [(.long w_upper_a1)])) _
      refine XS.lconst X5.here hx rfl (hb hby d4_13) ?_
      show Steps p.tables e below (T5.setTop (mkF m 14 _ [(.long (1 : Int64)), (.long w_upper_a1)])) _
      refine XS.lcmp X5.here hx rfl (hb hby d4_14) rfl ?_
      exact kt
    by_cases hc7 : w_upper_a1 = (1 : Int64)
    · skip
      obtain ⟨fs, hr, hrun, hended, hW, hsame⟩ := X5.leave (v := some (.int (1 : Int32))) (fun h => by rw [Bd.returns] at h; cases h) (by first | exact BodyLoose.notSynchronized Bd | exact Body.notSynchronized Bd)
      refine ⟨_, _, pre6 _ ?_, hrun, hended, _, _, rfl, ?_, ⟨_, rfl⟩, hW, hsame.mono (by decide) (by decide)⟩
      · show Steps p.tables e below (T5.setTop (mkF m 15 #[.val (.ref a1)] [(.int (lcmpW w_upper_a1 (1 : Int64)))])) _
        refine XS.ifNo X5.here hx rfl (hb hby d4_15) rfl ((if0 _ _).trans (teq ((lw_eq _ _).mpr hc7)).2) ?_
        show Steps p.tables e below (T5.setTop (mkF m 18 _ [])) _
        refine XS.iconst X5.here hx rfl (hb hby d4_18) ?_
        show Steps p.tables e below (T5.setTop (mkF m 19 _ [(.int (1 : Int32))])) _
        refine XS.goto X5.here hx rfl (pc0 := 19) (pc' := 23) rfl (hb hby d4_19) (by decide) (by decide) ?_
        show Steps p.tables e below (T5.setTop (mkF m 23 #[.val (.ref a1)] [(.int (1 : Int32))])) _
        exact retN X5 hx (t := .boolean) Bd.returns (by simp) (hb hby d4_23) hr
      · show Q4 Z a1 w_lower_a1 w_upper_a1 h0 n0 _ T5.heap _
        rw [e5]
        exact ⟨congrArg (fun z => some (Value.int z)) (by rw [f4, if_pos hc4, if_pos hc7] : f4 w_lower_a1 w_upper_a1 = (1 : Int32)).symm, N0, rfl⟩
    · skip
      obtain ⟨fs, hr, hrun, hended, hW, hsame⟩ := X5.leave (v := some (.int (0 : Int32))) (fun h => by rw [Bd.returns] at h; cases h) (by first | exact BodyLoose.notSynchronized Bd | exact Body.notSynchronized Bd)
      refine ⟨_, _, pre6 _ ?_, hrun, hended, _, _, rfl, ?_, ⟨_, rfl⟩, hW, hsame.mono (by decide) (by decide)⟩
      · show Steps p.tables e below (T5.setTop (mkF m 15 #[.val (.ref a1)] [(.int (lcmpW w_upper_a1 (1 : Int64)))])) _
        refine XS.ifYes X5.here hx rfl (pc0 := 15) (pc' := 22) rfl (hb hby d4_15) rfl ((if0 _ _).trans (feq (mt (lw_eq _ _).mp hc7)).2) (by decide) (by decide) ?_
        show Steps p.tables e below (T5.setTop (mkF m 22 _ [])) _
        refine XS.iconst X5.here hx rfl (hb hby d4_22) ?_
        show Steps p.tables e below (T5.setTop (mkF m 23 #[.val (.ref a1)] [(.int (0 : Int32))])) _
        exact retN X5 hx (t := .boolean) Bd.returns (by simp) (hb hby d4_23) hr
      · show Q4 Z a1 w_lower_a1 w_upper_a1 h0 n0 _ T5.heap _
        rw [e5]
        exact ⟨congrArg (fun z => some (Value.int z)) (by rw [f4, if_pos hc4, if_neg hc7] : f4 w_lower_a1 w_upper_a1 = (0 : Int32)).symm, N0, rfl⟩
  · skip
    obtain ⟨fs, hr, hrun, hended, hW, hsame⟩ := X2.leave (v := some (.int (0 : Int32))) (fun h => by rw [Bd.returns] at h; cases h) (by first | exact BodyLoose.notSynchronized Bd | exact Body.notSynchronized Bd)
    refine ⟨_, _, pre3 _ ?_, hrun, hended, _, _, rfl, ?_, ⟨_, rfl⟩, hW, hsame.mono (by decide) (by decide)⟩
    · show Steps p.tables e below (T2.setTop (mkF m 6 #[.val (.ref a1)] [(.int (lcmpW w_lower_a1 (0 : Int64)))])) _
      refine XS.ifYes X2.here hx rfl (pc0 := 6) (pc' := 22) rfl (hb hby d4_6) rfl ((if0 _ _).trans (feq (mt (lw_eq _ _).mp hc4)).2) (by decide) (by decide) ?_
      show Steps p.tables e below (T2.setTop (mkF m 22 _ [])) _
      refine XS.iconst X2.here hx rfl (hb hby d4_22) ?_
      show Steps p.tables e below (T2.setTop (mkF m 23 #[.val (.ref a1)] [(.int (0 : Int32))])) _
      exact retN X2 hx (t := .boolean) Bd.returns (by simp) (hb hby d4_23) hr
    · show Q4 Z a1 w_lower_a1 w_upper_a1 h0 n0 _ T2.heap _
      rw [e2]
      exact ⟨congrArg (fun z => some (Value.int z)) (by rw [f4, if_neg hc4] : f4 w_lower_a1 w_upper_a1 = (0 : Int32)).symm, N0, rfl⟩
theorem pn_0 : plainName "com/example/releve/releve/VariableIsBooleanPinLaw" = true := by first | (simp [plainName, overriddenIn]; done) | decide +kernel
theorem pd_0_0 : parseMethodDescriptor "(JJ)V" = some ⟨[.long, .long], none⟩ := by decide +kernel
theorem pd_0_2 : parseMethodDescriptor "()Z" = some ⟨[], some .boolean⟩ := by decide +kernel
theorem ef_0 (m : MethodId) (x0 : Int64) (x1 : Int64) (x2 : Int32) : entryFrame m #[(.long x0), (.long x1), (.int x2)] maxLocals = mkF m 0 #[.val (.long x0), .second, .val (.long x1), .second, .val (.int x2), .unset, .unset, .unset, .unset, .unset, .unset] [] := by first | (simp [entryFrame, mkF, argsToLocals, Value.category, maxLocals]; done) | rfl
def f0 (q1 : Int64) (q2 : Int64) (p3 : Int32) : Int32 := (if (p3 &&& (1 : Int32)) = (0 : Int32) then (if (p3 &&& (2 : Int32)) = (0 : Int32) then (if q1 < (0 : Int64) then (if (f4 q1 q2) = (0 : Int32) then (1 : Int32) else (0 : Int32)) else (if (1 : Int64) < q2 then (if (f4 q1 q2) = (0 : Int32) then (1 : Int32) else (0 : Int32)) else (if q1 < q2 then (if (f4 q1 q2) = (1 : Int32) then (1 : Int32) else (0 : Int32)) else (if (f4 q1 q2) = (0 : Int32) then (1 : Int32) else (0 : Int32))))) else (if q1 < (0 : Int64) then (if (f4 q1 ((q2 &&& (3 : Int64)) - (1 : Int64))) = (0 : Int32) then (1 : Int32) else (0 : Int32)) else (if (1 : Int64) < ((q2 &&& (3 : Int64)) - (1 : Int64)) then (if (f4 q1 ((q2 &&& (3 : Int64)) - (1 : Int64))) = (0 : Int32) then (1 : Int32) else (0 : Int32)) else (if q1 < ((q2 &&& (3 : Int64)) - (1 : Int64)) then (if (f4 q1 ((q2 &&& (3 : Int64)) - (1 : Int64))) = (1 : Int32) then (1 : Int32) else (0 : Int32)) else (if (f4 q1 ((q2 &&& (3 : Int64)) - (1 : Int64))) = (0 : Int32) then (1 : Int32) else (0 : Int32)))))) else (if (p3 &&& (2 : Int32)) = (0 : Int32) then (if ((q1 &&& (3 : Int64)) - (1 : Int64)) < (0 : Int64) then (if (f4 ((q1 &&& (3 : Int64)) - (1 : Int64)) q2) = (0 : Int32) then (1 : Int32) else (0 : Int32)) else (if (1 : Int64) < q2 then (if (f4 ((q1 &&& (3 : Int64)) - (1 : Int64)) q2) = (0 : Int32) then (1 : Int32) else (0 : Int32)) else (if ((q1 &&& (3 : Int64)) - (1 : Int64)) < q2 then (if (f4 ((q1 &&& (3 : Int64)) - (1 : Int64)) q2) = (1 : Int32) then (1 : Int32) else (0 : Int32)) else (if (f4 ((q1 &&& (3 : Int64)) - (1 : Int64)) q2) = (0 : Int32) then (1 : Int32) else (0 : Int32))))) else (if ((q1 &&& (3 : Int64)) - (1 : Int64)) < (0 : Int64) then (if (f4 ((q1 &&& (3 : Int64)) - (1 : Int64)) ((q2 &&& (3 : Int64)) - (1 : Int64))) = (0 : Int32) then (1 : Int32) else (0 : Int32)) else (if (1 : Int64) < ((q2 &&& (3 : Int64)) - (1 : Int64)) then (if (f4 ((q1 &&& (3 : Int64)) - (1 : Int64)) ((q2 &&& (3 : Int64)) - (1 : Int64))) = (0 : Int32) then (1 : Int32) else (0 : Int32)) else (if ((q1 &&& (3 : Int64)) - (1 : Int64)) < ((q2 &&& (3 : Int64)) - (1 : Int64)) then (if (f4 ((q1 &&& (3 : Int64)) - (1 : Int64)) ((q2 &&& (3 : Int64)) - (1 : Int64))) = (1 : Int32) then (1 : Int32) else (0 : Int32)) else (if (f4 ((q1 &&& (3 : Int64)) - (1 : Int64)) ((q2 &&& (3 : Int64)) - (1 : Int64))) = (0 : Int32) then (1 : Int32) else (0 : Int32)))))))
def Q0 (Z : State) (q1 : Int64) (q2 : Int64) (p3 : Int32) (h0 : Heap) (n0 : Nat) (v : Option Value) (h : Heap) (L : List Loc) : Prop := v = some (.int (f0 q1 q2 p3)) ∧ Fr n0 L
set_option maxRecDepth 65536 in
set_option maxHeartbeats 40000000 in
theorem rm0 (l : Launch) (Z : State) (a0 : Array Value) (hw : ∀ d ∈ tables_1, d.before a0 Z = true) (ws : List Jvm.Cond) (q1 : Int64) (q2 : Int64) (p3 : Int32) (h0 : Heap) (n0 : Nat) (Z0 : n0 ≤ h0.size) :
    MetFree l x (head1 (Jvm.Cond.code x code maxLocals ret :: ws) room_1) (fun a U => a = #[(.long q1), (.long q2), (.int p3)] ∧ Z.Warmed39 U.vm ∧ U.heap = h0) (fun _ _ _ _ _ => True) (fun _ U o U' => ∃ v L, o = .returned v ∧ Q0 Z q1 q2 p3 h0 n0 v U'.heap L ∧ FrameEnd U o U' L room_1.cells room_1.slots) := by
  refine MetFree.of_bodySF (plainFor_of_name pn_0) hisR ?_
  intro p e s m args below meth c s₁ Bd hml0 hP hK
  obtain ⟨rfl, hZ, hh⟩ := hP
  have hx := Bd.exec
  have hby := Bd.bytes
  have hml : c.maxLocals = 11 := hml0
  have hown : s.vm.findClass "com/example/releve/releve/VariableIsBooleanPinLaw" = some m.cls := findClass_of_methodNamed Bd.named
  have hnm := (name_of_methodNamed Bd.named Bd.method).1
  have X0 : Stand p l e room_1 s m #[(.long q1), (.long q2), (.int p3)] below meth c s₁ [] 0 0 := Stand.of_body Bd
  have e0 : s₁.heap = h0 := by rw [← hh, Bd.state]; rfl
  have N0 := Fr.nil n0
  have pre0 : ∀ t, Steps p.tables e below (s₁.setTop (mkF m 0 #[.val (.long q1), .second, .val (.long q2), .second, .val (.int p3), .unset, .unset, .unset, .unset, .unset, .unset] [])) t → Steps p.tables e below (s₁.setTop (entryFrame m #[(.long q1), (.long q2), (.int p3)] maxLocals)) t := fun t k => castTop (ef_0 m q1 q2 p3) k
  have pre4 : ∀ t, Steps p.tables e below (s₁.setTop (mkF m 4 #[.val (.long q1), .second, .val (.long q2), .second, .val (.int p3), .unset, .unset, .unset, .unset, .unset, .unset] [(.int (p3 &&& (1 : Int32)))])) t → Steps p.tables e below (s₁.setTop (entryFrame m #[(.long q1), (.long q2), (.int p3)] maxLocals)) t := fun t kt => by
    refine pre0 _ ?_
    show Steps p.tables e below (s₁.setTop (mkF m 0 #[.val (.long q1), .second, .val (.long q2), .second, .val (.int p3), .unset, .unset, .unset, .unset, .unset, .unset] [])) _
    refine XS.iload X0.here hx rfl (hb hby at_0) rfl ?_
    show Steps p.tables e below (s₁.setTop (mkF m 2 _ [(.int p3)])) _
    refine XS.iconst X0.here hx rfl (hb hby at_2) ?_
    show Steps p.tables e below (s₁.setTop (mkF m 3 _ [(.int (1 : Int32)), (.int p3)])) _
    refine XS.iand X0.here hx rfl (hb hby at_3) rfl ?_
    exact kt
  by_cases hc5 : (p3 &&& (1 : Int32)) = (0 : Int32)
  · skip
    have pre6 : ∀ t, Steps p.tables e below (s₁.setTop (mkF m 24 #[.val (.long q1), .second, .val (.long q2), .second, .val (.int p3), .val (.long q1), .second, .unset, .unset, .unset, .unset] [(.int (p3 &&& (2 : Int32)))])) t → Steps p.tables e below (s₁.setTop (entryFrame m #[(.long q1), (.long q2), (.int p3)] maxLocals)) t := fun t kt => by
      refine pre4 _ ?_
      show Steps p.tables e below (s₁.setTop (mkF m 4 #[.val (.long q1), .second, .val (.long q2), .second, .val (.int p3), .unset, .unset, .unset, .unset, .unset, .unset] [(.int (p3 &&& (1 : Int32)))])) _
      refine XS.ifYes X0.here hx rfl (pc0 := 4) (pc' := 17) rfl (hb hby at_4) rfl ((if0 _ _).trans (teq hc5).1) (by decide) (by decide) ?_
      show Steps p.tables e below (s₁.setTop (mkF m 17 _ [])) _
      refine XS.lloadN X0.here hx rfl (hb hby at_17) rfl ?_
      show Steps p.tables e below (s₁.setTop (mkF m 18 _ [(.long q1)])) _
      refine XS.lstore X0.here hx rfl (hb hby at_18) rfl (l' := #[.val (.long q1), .second, .val (.long q2), .second, .val (.int p3), .val (.long q1), .second, .unset, .unset, .unset, .unset]) rfl ?_
      show Steps p.tables e below (s₁.setTop (mkF m 20 _ [])) _
      refine XS.iload X0.here hx rfl (hb hby at_20) rfl ?_
      show Steps p.tables e below (s₁.setTop (mkF m 22 _ [(.int p3)])) _
      refine XS.iconst X0.here hx rfl (hb hby at_22) ?_
      show Steps p.tables e below (s₁.setTop (mkF m 23 _ [(.int (2 : Int32)), (.int p3)])) _
      refine XS.iand X0.here hx rfl (hb hby at_23) rfl ?_
      exact kt
    by_cases hc7 : (p3 &&& (2 : Int32)) = (0 : Int32)
    · skip
      obtain ⟨T8, h8, X8, e8, E8, A8, D8, -, st8⟩ := newO X0 hx hZ hown (hw _ (List.mem_of_getElem? (i := 0) rfl)) (hw _ (List.mem_of_getElem? (i := 1) rfl)) (hw _ (List.mem_of_getElem? (i := 2) rfl)) e0 (g := (mkF m 40 #[.val (.long q1), .second, .val (.long q2), .second, .val (.int p3), .val (.long q1), .second, .val (.long q2), .second, .unset, .unset] [])) rfl (hb hby at_40) (by decide) (by decide)
      obtain ⟨b8, g8⟩ : ∃ z, z = h0.size := ⟨_, rfl⟩
      rw [← g8] at A8 D8 st8
      have g_b8 : n0 ≤ b8 := Nat.le_trans Z0 (Nat.le_of_eq g8.symm)
      have F_lower_b8 : Fld Z h8 b8 "com/example/releve/releve/LinearModel$Variable" "lower" "J" (.long (0 : Int64)) := D8 (Or.inr (hw _ (List.mem_of_getElem? (i := 15) rfl))) (ty := .long) (by decide)
      have F_upper_b8 : Fld Z h8 b8 "com/example/releve/releve/LinearModel$Variable" "upper" "J" (.long (0 : Int64)) := D8 (Or.inr (hw _ (List.mem_of_getElem? (i := 17) rfl))) (ty := .long) (by decide)
      have Zs10 : n0 ≤ h8.size := (Nat.le_trans Z0 E8.1)
      obtain ⟨_, _, ⟨T9, L9, k9, n9⟩, -, X9, ⟨Lc9, hQ9, l9, y9, z9⟩, st9⟩ := X8.specialBack hx (y := (⟨"com/example/releve/releve/LinearModel$Variable", "<init>", "(JJ)V"⟩ : MethodName)) rfl hown (mvT hZ (hw _ (List.mem_of_getElem? (i := 3) rfl))) (mvT hZ (hw _ (List.mem_of_getElem? (i := 4) rfl))) (mvT hZ (hw _ (List.mem_of_getElem? (i := 5) rfl))) (by decide) (backOf (W := 1) (rm1 l Z a0 hw [] b8 q1 q2 (.long (0 : Int64)) (.long (0 : Int64)) h8 n0 Zs10 A8 F_lower_b8 F_upper_b8 g_b8) hZ (hw _ (List.mem_of_getElem? (i := 5) rfl)) (hw _ (List.mem_of_getElem? (i := 2) rfl)) (by decide) (by decide)) (g := (mkF m 48 #[.val (.long q1), .second, .val (.long q2), .second, .val (.int p3), .val (.long q1), .second, .val (.long q2), .second, .unset, .unset] [(.long q2), (.long q1), (.ref b8), (.ref b8)])) rfl (by rw [hml]; rfl) (Steps.refl _) (a := b8) (argsL := [(.long q1), (.long q2)]) (rest := [(.ref b8)]) (lenOf pd_0_0 rfl) rfl (by show 2 * 0 + _ ≤ _; exact Nat.le_of_eq rfl) (hb hby at_48) (fun _ _ => ⟨rfl, e8, (by decide : 1 + 0 ≤ _), (by decide : 2 + 0 ≤ _)⟩)
      dsimp only [Pt.U, Pt.locs, Pt.cells, Pt.slots] at X9 l9 y9 z9 st9 hQ9
      subst l9 y9 z9
      obtain ⟨rfl, N9q, Kp9, qp9_0, qp9_1, qp9_2⟩ := hQ9
      have N9 := Fr.app N0 N9q
      have pre11 : ∀ t, Steps p.tables e below (T9.setTop (mkF m 57 #[.val (.long q1), .second, .val (.long q2), .second, .val (.int p3), .val (.long q1), .second, .val (.long q2), .second, .val (.ref b8), .unset] [(.int (lcmpW q1 (0 : Int64)))])) t → Steps p.tables e below (s₁.setTop (entryFrame m #[(.long q1), (.long q2), (.int p3)] maxLocals)) t := fun t kt => by
        refine pre6 _ ?_
        show Steps p.tables e below (s₁.setTop (mkF m 24 #[.val (.long q1), .second, .val (.long q2), .second, .val (.int p3), .val (.long q1), .second, .unset, .unset, .unset, .unset] [(.int (p3 &&& (2 : Int32)))])) _
        refine XS.ifYes X0.here hx rfl (pc0 := 24) (pc' := 37) rfl (hb hby at_24) rfl ((if0 _ _).trans (teq hc7).1) (by decide) (by decide) ?_
        show Steps p.tables e below (s₁.setTop (mkF m 37 _ [])) _
        refine XS.lloadN X0.here hx rfl (hb hby at_37) rfl ?_
        show Steps p.tables e below (s₁.setTop (mkF m 38 _ [(.long q2)])) _
        refine XS.lstore X0.here hx rfl (hb hby at_38) rfl (l' := #[.val (.long q1), .second, .val (.long q2), .second, .val (.int p3), .val (.long q1), .second, .val (.long q2), .second, .unset, .unset]) rfl ?_
        show Steps p.tables e below (s₁.setTop (mkF m 40 _ [])) _
        refine st8 _ ?_
        show Steps p.tables e below (T8.setTop (mkF m 43 _ [(.ref b8)])) _
        refine XS.dup X8.here hx rfl (hb hby at_43) rfl rfl ?_
        show Steps p.tables e below (T8.setTop (mkF m 44 _ [(.ref b8), (.ref b8)])) _
        refine XS.lload X8.here hx rfl (hb hby at_44) rfl ?_
        show Steps p.tables e below (T8.setTop (mkF m 46 _ [(.long q1), (.ref b8), (.ref b8)])) _
        refine XS.lload X8.here hx rfl (hb hby at_46) rfl ?_
        show Steps p.tables e below (T8.setTop (mkF m 48 _ [(.long q2), (.long q1), (.ref b8), (.ref b8)])) _
        refine st9.trans ?_
        show Steps p.tables e below (T9.setTop (mkF m 51 _ [(.ref b8)])) _
        refine XS.astore X9.here hx rfl (hb hby at_51) rfl rfl (l' := #[.val (.long q1), .second, .val (.long q2), .second, .val (.int p3), .val (.long q1), .second, .val (.long q2), .second, .val (.ref b8), .unset]) rfl ?_
        show Steps p.tables e below (T9.setTop (mkF m 53 _ [])) _
        refine XS.lload X9.here hx rfl (hb hby at_53) rfl ?_
        show Steps p.tables e below (T9.setTop (mkF m 55 _ [(.long q1)])) _
        refine XS.lconst X9.here hx rfl (hb hby at_55) ?_
        show Steps p.tables e below (T9.setTop (mkF m 56 _ [(.long (0 : Int64)), (.long q1)])) _
        refine XS.lcmp X9.here hx rfl (hb hby at_56) rfl ?_
        exact kt
      by_cases hc12 : q1 < (0 : Int64)
      · skip
        have Zs14 : n0 ≤ T9.heap.size := (Nat.le_trans Zs10 Kp9.1)
        obtain ⟨cq13, kq13, q13a, q13b, q13c⟩ := isOf hZ rfl qp9_0
        obtain ⟨_, _, ⟨T13, L13, k13, n13⟩, -, X13, ⟨Lc13, hQ13, l13, y13, z13⟩, st13⟩ := X9.virtualBack hx (y := (⟨"com/example/releve/releve/LinearModel$Variable", "isBoolean", "()Z"⟩ : MethodName)) (z := (⟨"com/example/releve/releve/LinearModel$Variable", "isBoolean", "()Z"⟩ : MethodName)) hown (mvT hZ (hw _ (List.mem_of_getElem? (i := 18) rfl))) (mvT hZ (hw _ (List.mem_of_getElem? (i := 19) rfl))) (notFace_of_selects (args := #[]) (mvT hZ (hw _ (List.mem_of_getElem? (i := 21) rfl)))) (mvT hZ (hw _ (List.mem_of_getElem? (i := 21) rfl))) (mvT hZ (hw _ (List.mem_of_getElem? (i := 20) rfl))) (by decide) (backOf (W := 0) (rm4 l Z a0 hw [] b8 q1 q2 T9.heap n0 Zs14 qp9_1 qp9_2) hZ (hw _ (List.mem_of_getElem? (i := 22) rfl)) (hw _ (List.mem_of_getElem? (i := 2) rfl)) (by decide) (by decide)) q13a q13c (g := (mkF m 84 #[.val (.long q1), .second, .val (.long q2), .second, .val (.int p3), .val (.long q1), .second, .val (.long q2), .second, .val (.ref b8), .val (.int (0 : Int32))] [(.ref b8)])) rfl (by rw [hml]; rfl) (Steps.refl _) (argsL := []) (rest := []) (lenOf pd_0_2 rfl) rfl (by show 2 * 0 + _ ≤ _; exact Nat.le_of_eq rfl) (hb hby at_84) (fun _ _ => ⟨rfl, rfl, (by decide : 1 + 0 ≤ _), (by decide : 2 + 0 ≤ _)⟩)
        dsimp only [Pt.U, Pt.locs, Pt.cells, Pt.slots] at X13 l13 y13 z13 st13 hQ13
        subst l13 y13 z13
        obtain ⟨rfl, N13q, e13⟩ := hQ13
        have N13 := Fr.app N9 N13q
        have pre15 : ∀ t, Steps p.tables e below (T13.setTop (mkF m 89 #[.val (.long q1), .second, .val (.long q2), .second, .val (.int p3), .val (.long q1), .second, .val (.long q2), .second, .val (.ref b8), .val (.int (0 : Int32))] [(.int (0 : Int32)), (.int (f4 q1 q2))])) t → Steps p.tables e below (s₁.setTop (entryFrame m #[(.long q1), (.long q2), (.int p3)] maxLocals)) t := fun t kt => by
          refine pre11 _ ?_
          show Steps p.tables e below (T9.setTop (mkF m 57 #[.val (.long q1), .second, .val (.long q2), .second, .val (.int p3), .val (.long q1), .second, .val (.long q2), .second, .val (.ref b8), .unset] [(.int (lcmpW q1 (0 : Int64)))])) _
          refine XS.ifYes X9.here hx rfl (pc0 := 57) (pc' := 79) rfl (hb hby at_57) rfl ((if0 _ _).trans (tlt ((lw_lt _ _).mpr hc12)).1) (by decide) (by decide) ?_
          show Steps p.tables e below (T9.setTop (mkF m 79 _ [])) _
          refine XS.iconst X9.here hx rfl (hb hby at_79) ?_
          show Steps p.tables e below (T9.setTop (mkF m 80 _ [(.int (0 : Int32))])) _
          refine XS.istore X9.here hx rfl (hb hby at_80) rfl (l' := #[.val (.long q1), .second, .val (.long q2), .second, .val (.int p3), .val (.long q1), .second, .val (.long q2), .second, .val (.ref b8), .val (.int (0 : Int32))]) rfl ?_
          show Steps p.tables e below (T9.setTop (mkF m 82 _ [])) _
          refine XS.aload X9.here hx rfl (hb hby at_82) rfl rfl ?_
          show Steps p.tables e below (T9.setTop (mkF m 84 _ [(.ref b8)])) _
          refine st13.trans ?_
          show Steps p.tables e below (T13.setTop (mkF m 87 _ [(.int (f4 q1 q2))])) _
          refine XS.iload X13.here hx rfl (hb hby at_87) rfl ?_
          exact kt
        by_cases hc16 : (f4 q1 q2) = (0 : Int32)
        · skip
          obtain ⟨fs, hr, hrun, hended, hW, hsame⟩ := X13.leave (v := some (.int (1 : Int32))) (fun h => by rw [Bd.returns] at h; cases h) (by first | exact BodyLoose.notSynchronized Bd | exact Body.notSynchronized Bd)
          refine ⟨_, _, pre15 _ ?_, hrun, hended, _, _, rfl, ?_, ⟨_, rfl⟩, hW, hsame.mono (by decide) (by decide)⟩
          · show Steps p.tables e below (T13.setTop (mkF m 89 #[.val (.long q1), .second, .val (.long q2), .second, .val (.int p3), .val (.long q1), .second, .val (.long q2), .second, .val (.ref b8), .val (.int (0 : Int32))] [(.int (0 : Int32)), (.int (f4 q1 q2))])) _
            refine XS.icmpNo X13.here hx rfl (hb hby at_89) rfl (teq hc16).2 ?_
            show Steps p.tables e below (T13.setTop (mkF m 92 _ [])) _
            refine XS.iconst X13.here hx rfl (hb hby at_92) ?_
            show Steps p.tables e below (T13.setTop (mkF m 93 _ [(.int (1 : Int32))])) _
            refine XS.goto X13.here hx rfl (pc0 := 93) (pc' := 97) rfl (hb hby at_93) (by decide) (by decide) ?_
            show Steps p.tables e below (T13.setTop (mkF m 97 #[.val (.long q1), .second, .val (.long q2), .second, .val (.int p3), .val (.long q1), .second, .val (.long q2), .second, .val (.ref b8), .val (.int (0 : Int32))] [(.int (1 : Int32))])) _
            exact retN X13 hx (t := .boolean) Bd.returns (by simp) (hb hby at_97) hr
          · show Q0 Z q1 q2 p3 h0 n0 _ T13.heap _
            rw [e13]
            exact ⟨congrArg (fun z => some (Value.int z)) (by rw [f0, if_pos hc5, if_pos hc7, if_pos hc12, if_pos hc16] : f0 q1 q2 p3 = (1 : Int32)).symm, N13⟩
        · skip
          obtain ⟨fs, hr, hrun, hended, hW, hsame⟩ := X13.leave (v := some (.int (0 : Int32))) (fun h => by rw [Bd.returns] at h; cases h) (by first | exact BodyLoose.notSynchronized Bd | exact Body.notSynchronized Bd)
          refine ⟨_, _, pre15 _ ?_, hrun, hended, _, _, rfl, ?_, ⟨_, rfl⟩, hW, hsame.mono (by decide) (by decide)⟩
          · show Steps p.tables e below (T13.setTop (mkF m 89 #[.val (.long q1), .second, .val (.long q2), .second, .val (.int p3), .val (.long q1), .second, .val (.long q2), .second, .val (.ref b8), .val (.int (0 : Int32))] [(.int (0 : Int32)), (.int (f4 q1 q2))])) _
            refine XS.icmpYes X13.here hx rfl (pc0 := 89) (pc' := 96) rfl (hb hby at_89) rfl (feq hc16).2 (by decide) (by decide) ?_
            show Steps p.tables e below (T13.setTop (mkF m 96 _ [])) _
            refine XS.iconst X13.here hx rfl (hb hby at_96) ?_
            show Steps p.tables e below (T13.setTop (mkF m 97 #[.val (.long q1), .second, .val (.long q2), .second, .val (.int p3), .val (.long q1), .second, .val (.long q2), .second, .val (.ref b8), .val (.int (0 : Int32))] [(.int (0 : Int32))])) _
            exact retN X13 hx (t := .boolean) Bd.returns (by simp) (hb hby at_97) hr
          · show Q0 Z q1 q2 p3 h0 n0 _ T13.heap _
            rw [e13]
            exact ⟨congrArg (fun z => some (Value.int z)) (by rw [f0, if_pos hc5, if_pos hc7, if_pos hc12, if_neg hc16] : f0 q1 q2 p3 = (0 : Int32)).symm, N13⟩
      · skip
        have pre17 : ∀ t, Steps p.tables e below (T9.setTop (mkF m 64 #[.val (.long q1), .second, .val (.long q2), .second, .val (.int p3), .val (.long q1), .second, .val (.long q2), .second, .val (.ref b8), .unset] [(.int (lcmpW q2 (1 : Int64)))])) t → Steps p.tables e below (s₁.setTop (entryFrame m #[(.long q1), (.long q2), (.int p3)] maxLocals)) t := fun t kt => by
          refine pre11 _ ?_
          show Steps p.tables e below (T9.setTop (mkF m 57 #[.val (.long q1), .second, .val (.long q2), .second, .val (.int p3), .val (.long q1), .second, .val (.long q2), .second, .val (.ref b8), .unset] [(.int (lcmpW q1 (0 : Int64)))])) _
          refine XS.ifNo X9.here hx rfl (hb hby at_57) rfl ((if0 _ _).trans (flt (mt (lw_lt _ _).mp hc12)).1) ?_
          show Steps p.tables e below (T9.setTop (mkF m 60 _ [])) _
          refine XS.lload X9.here hx rfl (hb hby at_60) rfl ?_
          show Steps p.tables e below (T9.setTop (mkF m 62 _ [(.long q2)])) _
          refine XS.lconst X9.here hx rfl (hb hby at_62) ?_
          show Steps p.tables e below (T9.setTop (mkF m 63 _ [(.long (1 : Int64)), (.long q2)])) _
          refine XS.lcmp X9.here hx rfl (hb hby at_63) rfl ?_
          exact kt
        by_cases hc18 : (1 : Int64) < q2
        · skip
          have Zs20 : n0 ≤ T9.heap.size := (Nat.le_trans Zs10 Kp9.1)
          obtain ⟨cq19, kq19, q19a, q19b, q19c⟩ := isOf hZ rfl qp9_0
          obtain ⟨_, _, ⟨T19, L19, k19, n19⟩, -, X19, ⟨Lc19, hQ19, l19, y19, z19⟩, st19⟩ := X9.virtualBack hx (y := (⟨"com/example/releve/releve/LinearModel$Variable", "isBoolean", "()Z"⟩ : MethodName)) (z := (⟨"com/example/releve/releve/LinearModel$Variable", "isBoolean", "()Z"⟩ : MethodName)) hown (mvT hZ (hw _ (List.mem_of_getElem? (i := 18) rfl))) (mvT hZ (hw _ (List.mem_of_getElem? (i := 19) rfl))) (notFace_of_selects (args := #[]) (mvT hZ (hw _ (List.mem_of_getElem? (i := 21) rfl)))) (mvT hZ (hw _ (List.mem_of_getElem? (i := 21) rfl))) (mvT hZ (hw _ (List.mem_of_getElem? (i := 20) rfl))) (by decide) (backOf (W := 0) (rm4 l Z a0 hw [] b8 q1 q2 T9.heap n0 Zs20 qp9_1 qp9_2) hZ (hw _ (List.mem_of_getElem? (i := 22) rfl)) (hw _ (List.mem_of_getElem? (i := 2) rfl)) (by decide) (by decide)) q19a q19c (g := (mkF m 84 #[.val (.long q1), .second, .val (.long q2), .second, .val (.int p3), .val (.long q1), .second, .val (.long q2), .second, .val (.ref b8), .val (.int (0 : Int32))] [(.ref b8)])) rfl (by rw [hml]; rfl) (Steps.refl _) (argsL := []) (rest := []) (lenOf pd_0_2 rfl) rfl (by show 2 * 0 + _ ≤ _; exact Nat.le_of_eq rfl) (hb hby at_84) (fun _ _ => ⟨rfl, rfl, (by decide : 1 + 0 ≤ _), (by decide : 2 + 0 ≤ _)⟩)
          dsimp only [Pt.U, Pt.locs, Pt.cells, Pt.slots] at X19 l19 y19 z19 st19 hQ19
          subst l19 y19 z19
          obtain ⟨rfl, N19q, e19⟩ := hQ19
          have N19 := Fr.app N9 N19q
          have pre21 : ∀ t, Steps p.tables e below (T19.setTop (mkF m 89 #[.val (.long q1), .second, .val (.long q2), .second, .val (.int p3), .val (.long q1), .second, .val (.long q2), .second, .val (.ref b8), .val (.int (0 : Int32))] [(.int (0 : Int32)), (.int (f4 q1 q2))])) t → Steps p.tables e below (s₁.setTop (entryFrame m #[(.long q1), (.long q2), (.int p3)] maxLocals)) t := fun t kt => by
            refine pre17 _ ?_
            show Steps p.tables e below (T9.setTop (mkF m 64 #[.val (.long q1), .second, .val (.long q2), .second, .val (.int p3), .val (.long q1), .second, .val (.long q2), .second, .val (.ref b8), .unset] [(.int (lcmpW q2 (1 : Int64)))])) _
            refine XS.ifYes X9.here hx rfl (pc0 := 64) (pc' := 79) rfl (hb hby at_64) rfl ((if0 _ _).trans (tlt ((lw_gt _ _).mpr hc18)).2.2.1) (by decide) (by decide) ?_
            show Steps p.tables e below (T9.setTop (mkF m 79 _ [])) _
            refine XS.iconst X9.here hx rfl (hb hby at_79) ?_
            show Steps p.tables e below (T9.setTop (mkF m 80 _ [(.int (0 : Int32))])) _
            refine XS.istore X9.here hx rfl (hb hby at_80) rfl (l' := #[.val (.long q1), .second, .val (.long q2), .second, .val (.int p3), .val (.long q1), .second, .val (.long q2), .second, .val (.ref b8), .val (.int (0 : Int32))]) rfl ?_
            show Steps p.tables e below (T9.setTop (mkF m 82 _ [])) _
            refine XS.aload X9.here hx rfl (hb hby at_82) rfl rfl ?_
            show Steps p.tables e below (T9.setTop (mkF m 84 _ [(.ref b8)])) _
            refine st19.trans ?_
            show Steps p.tables e below (T19.setTop (mkF m 87 _ [(.int (f4 q1 q2))])) _
            refine XS.iload X19.here hx rfl (hb hby at_87) rfl ?_
            exact kt
          by_cases hc22 : (f4 q1 q2) = (0 : Int32)
          · skip
            obtain ⟨fs, hr, hrun, hended, hW, hsame⟩ := X19.leave (v := some (.int (1 : Int32))) (fun h => by rw [Bd.returns] at h; cases h) (by first | exact BodyLoose.notSynchronized Bd | exact Body.notSynchronized Bd)
            refine ⟨_, _, pre21 _ ?_, hrun, hended, _, _, rfl, ?_, ⟨_, rfl⟩, hW, hsame.mono (by decide) (by decide)⟩
            · show Steps p.tables e below (T19.setTop (mkF m 89 #[.val (.long q1), .second, .val (.long q2), .second, .val (.int p3), .val (.long q1), .second, .val (.long q2), .second, .val (.ref b8), .val (.int (0 : Int32))] [(.int (0 : Int32)), (.int (f4 q1 q2))])) _
              refine XS.icmpNo X19.here hx rfl (hb hby at_89) rfl (teq hc22).2 ?_
              show Steps p.tables e below (T19.setTop (mkF m 92 _ [])) _
              refine XS.iconst X19.here hx rfl (hb hby at_92) ?_
              show Steps p.tables e below (T19.setTop (mkF m 93 _ [(.int (1 : Int32))])) _
              refine XS.goto X19.here hx rfl (pc0 := 93) (pc' := 97) rfl (hb hby at_93) (by decide) (by decide) ?_
              show Steps p.tables e below (T19.setTop (mkF m 97 #[.val (.long q1), .second, .val (.long q2), .second, .val (.int p3), .val (.long q1), .second, .val (.long q2), .second, .val (.ref b8), .val (.int (0 : Int32))] [(.int (1 : Int32))])) _
              exact retN X19 hx (t := .boolean) Bd.returns (by simp) (hb hby at_97) hr
            · show Q0 Z q1 q2 p3 h0 n0 _ T19.heap _
              rw [e19]
              exact ⟨congrArg (fun z => some (Value.int z)) (by rw [f0, if_pos hc5, if_pos hc7, if_neg hc12, if_pos hc18, if_pos hc22] : f0 q1 q2 p3 = (1 : Int32)).symm, N19⟩
          · skip
            obtain ⟨fs, hr, hrun, hended, hW, hsame⟩ := X19.leave (v := some (.int (0 : Int32))) (fun h => by rw [Bd.returns] at h; cases h) (by first | exact BodyLoose.notSynchronized Bd | exact Body.notSynchronized Bd)
            refine ⟨_, _, pre21 _ ?_, hrun, hended, _, _, rfl, ?_, ⟨_, rfl⟩, hW, hsame.mono (by decide) (by decide)⟩
            · show Steps p.tables e below (T19.setTop (mkF m 89 #[.val (.long q1), .second, .val (.long q2), .second, .val (.int p3), .val (.long q1), .second, .val (.long q2), .second, .val (.ref b8), .val (.int (0 : Int32))] [(.int (0 : Int32)), (.int (f4 q1 q2))])) _
              refine XS.icmpYes X19.here hx rfl (pc0 := 89) (pc' := 96) rfl (hb hby at_89) rfl (feq hc22).2 (by decide) (by decide) ?_
              show Steps p.tables e below (T19.setTop (mkF m 96 _ [])) _
              refine XS.iconst X19.here hx rfl (hb hby at_96) ?_
              show Steps p.tables e below (T19.setTop (mkF m 97 #[.val (.long q1), .second, .val (.long q2), .second, .val (.int p3), .val (.long q1), .second, .val (.long q2), .second, .val (.ref b8), .val (.int (0 : Int32))] [(.int (0 : Int32))])) _
              exact retN X19 hx (t := .boolean) Bd.returns (by simp) (hb hby at_97) hr
            · show Q0 Z q1 q2 p3 h0 n0 _ T19.heap _
              rw [e19]
              exact ⟨congrArg (fun z => some (Value.int z)) (by rw [f0, if_pos hc5, if_pos hc7, if_neg hc12, if_pos hc18, if_neg hc22] : f0 q1 q2 p3 = (0 : Int32)).symm, N19⟩
        · skip
          have pre23 : ∀ t, Steps p.tables e below (T9.setTop (mkF m 72 #[.val (.long q1), .second, .val (.long q2), .second, .val (.int p3), .val (.long q1), .second, .val (.long q2), .second, .val (.ref b8), .unset] [(.int (lcmpW q1 q2))])) t → Steps p.tables e below (s₁.setTop (entryFrame m #[(.long q1), (.long q2), (.int p3)] maxLocals)) t := fun t kt => by
            refine pre17 _ ?_
            show Steps p.tables e below (T9.setTop (mkF m 64 #[.val (.long q1), .second, .val (.long q2), .second, .val (.int p3), .val (.long q1), .second, .val (.long q2), .second, .val (.ref b8), .unset] [(.int (lcmpW q2 (1 : Int64)))])) _
            refine XS.ifNo X9.here hx rfl (hb hby at_64) rfl ((if0 _ _).trans (flt (mt (lw_gt _ _).mp hc18)).2.2.1) ?_
            show Steps p.tables e below (T9.setTop (mkF m 67 _ [])) _
            refine XS.lload X9.here hx rfl (hb hby at_67) rfl ?_
            show Steps p.tables e below (T9.setTop (mkF m 69 _ [(.long q1)])) _
            refine XS.lload X9.here hx rfl (hb hby at_69) rfl ?_
            show Steps p.tables e below (T9.setTop (mkF m 71 _ [(.long q2), (.long q1)])) _
            refine XS.lcmp X9.here hx rfl (hb hby at_71) rfl ?_
            exact kt
          by_cases hc24 : q1 < q2
          · skip
            have Zs26 : n0 ≤ T9.heap.size := (Nat.le_trans Zs10 Kp9.1)
            obtain ⟨cq25, kq25, q25a, q25b, q25c⟩ := isOf hZ rfl qp9_0
            obtain ⟨_, _, ⟨T25, L25, k25, n25⟩, -, X25, ⟨Lc25, hQ25, l25, y25, z25⟩, st25⟩ := X9.virtualBack hx (y := (⟨"com/example/releve/releve/LinearModel$Variable", "isBoolean", "()Z"⟩ : MethodName)) (z := (⟨"com/example/releve/releve/LinearModel$Variable", "isBoolean", "()Z"⟩ : MethodName)) hown (mvT hZ (hw _ (List.mem_of_getElem? (i := 18) rfl))) (mvT hZ (hw _ (List.mem_of_getElem? (i := 19) rfl))) (notFace_of_selects (args := #[]) (mvT hZ (hw _ (List.mem_of_getElem? (i := 21) rfl)))) (mvT hZ (hw _ (List.mem_of_getElem? (i := 21) rfl))) (mvT hZ (hw _ (List.mem_of_getElem? (i := 20) rfl))) (by decide) (backOf (W := 0) (rm4 l Z a0 hw [] b8 q1 q2 T9.heap n0 Zs26 qp9_1 qp9_2) hZ (hw _ (List.mem_of_getElem? (i := 22) rfl)) (hw _ (List.mem_of_getElem? (i := 2) rfl)) (by decide) (by decide)) q25a q25c (g := (mkF m 84 #[.val (.long q1), .second, .val (.long q2), .second, .val (.int p3), .val (.long q1), .second, .val (.long q2), .second, .val (.ref b8), .val (.int (1 : Int32))] [(.ref b8)])) rfl (by rw [hml]; rfl) (Steps.refl _) (argsL := []) (rest := []) (lenOf pd_0_2 rfl) rfl (by show 2 * 0 + _ ≤ _; exact Nat.le_of_eq rfl) (hb hby at_84) (fun _ _ => ⟨rfl, rfl, (by decide : 1 + 0 ≤ _), (by decide : 2 + 0 ≤ _)⟩)
            dsimp only [Pt.U, Pt.locs, Pt.cells, Pt.slots] at X25 l25 y25 z25 st25 hQ25
            subst l25 y25 z25
            obtain ⟨rfl, N25q, e25⟩ := hQ25
            have N25 := Fr.app N9 N25q
            have pre27 : ∀ t, Steps p.tables e below (T25.setTop (mkF m 89 #[.val (.long q1), .second, .val (.long q2), .second, .val (.int p3), .val (.long q1), .second, .val (.long q2), .second, .val (.ref b8), .val (.int (1 : Int32))] [(.int (1 : Int32)), (.int (f4 q1 q2))])) t → Steps p.tables e below (s₁.setTop (entryFrame m #[(.long q1), (.long q2), (.int p3)] maxLocals)) t := fun t kt => by
              refine pre23 _ ?_
              show Steps p.tables e below (T9.setTop (mkF m 72 #[.val (.long q1), .second, .val (.long q2), .second, .val (.int p3), .val (.long q1), .second, .val (.long q2), .second, .val (.ref b8), .unset] [(.int (lcmpW q1 q2))])) _
              refine XS.ifNo X9.here hx rfl (hb hby at_72) rfl ((if0 _ _).trans (tlt ((lw_lt _ _).mpr hc24)).2.1) ?_
              show Steps p.tables e below (T9.setTop (mkF m 75 _ [])) _
              refine XS.iconst X9.here hx rfl (hb hby at_75) ?_
              show Steps p.tables e below (T9.setTop (mkF m 76 _ [(.int (1 : Int32))])) _
              refine XS.goto X9.here hx rfl (pc0 := 76) (pc' := 80) rfl (hb hby at_76) (by decide) (by decide) ?_
              show Steps p.tables e below (T9.setTop (mkF m 80 _ [(.int (1 : Int32))])) _
              refine XS.istore X9.here hx rfl (hb hby at_80) rfl (l' := #[.val (.long q1), .second, .val (.long q2), .second, .val (.int p3), .val (.long q1), .second, .val (.long q2), .second, .val (.ref b8), .val (.int (1 : Int32))]) rfl ?_
              show Steps p.tables e below (T9.setTop (mkF m 82 _ [])) _
              refine XS.aload X9.here hx rfl (hb hby at_82) rfl rfl ?_
              show Steps p.tables e below (T9.setTop (mkF m 84 _ [(.ref b8)])) _
              refine st25.trans ?_
              show Steps p.tables e below (T25.setTop (mkF m 87 _ [(.int (f4 q1 q2))])) _
              refine XS.iload X25.here hx rfl (hb hby at_87) rfl ?_
              exact kt
            by_cases hc28 : (f4 q1 q2) = (1 : Int32)
            · skip
              obtain ⟨fs, hr, hrun, hended, hW, hsame⟩ := X25.leave (v := some (.int (1 : Int32))) (fun h => by rw [Bd.returns] at h; cases h) (by first | exact BodyLoose.notSynchronized Bd | exact Body.notSynchronized Bd)
              refine ⟨_, _, pre27 _ ?_, hrun, hended, _, _, rfl, ?_, ⟨_, rfl⟩, hW, hsame.mono (by decide) (by decide)⟩
              · show Steps p.tables e below (T25.setTop (mkF m 89 #[.val (.long q1), .second, .val (.long q2), .second, .val (.int p3), .val (.long q1), .second, .val (.long q2), .second, .val (.ref b8), .val (.int (1 : Int32))] [(.int (1 : Int32)), (.int (f4 q1 q2))])) _
                refine XS.icmpNo X25.here hx rfl (hb hby at_89) rfl (teq hc28).2 ?_
                show Steps p.tables e below (T25.setTop (mkF m 92 _ [])) _
                refine XS.iconst X25.here hx rfl (hb hby at_92) ?_
                show Steps p.tables e below (T25.setTop (mkF m 93 _ [(.int (1 : Int32))])) _
                refine XS.goto X25.here hx rfl (pc0 := 93) (pc' := 97) rfl (hb hby at_93) (by decide) (by decide) ?_
                show Steps p.tables e below (T25.setTop (mkF m 97 #[.val (.long q1), .second, .val (.long q2), .second, .val (.int p3), .val (.long q1), .second, .val (.long q2), .second, .val (.ref b8), .val (.int (1 : Int32))] [(.int (1 : Int32))])) _
                exact retN X25 hx (t := .boolean) Bd.returns (by simp) (hb hby at_97) hr
              · show Q0 Z q1 q2 p3 h0 n0 _ T25.heap _
                rw [e25]
                exact ⟨congrArg (fun z => some (Value.int z)) (by rw [f0, if_pos hc5, if_pos hc7, if_neg hc12, if_neg hc18, if_pos hc24, if_pos hc28] : f0 q1 q2 p3 = (1 : Int32)).symm, N25⟩
            · skip
              obtain ⟨fs, hr, hrun, hended, hW, hsame⟩ := X25.leave (v := some (.int (0 : Int32))) (fun h => by rw [Bd.returns] at h; cases h) (by first | exact BodyLoose.notSynchronized Bd | exact Body.notSynchronized Bd)
              refine ⟨_, _, pre27 _ ?_, hrun, hended, _, _, rfl, ?_, ⟨_, rfl⟩, hW, hsame.mono (by decide) (by decide)⟩
              · show Steps p.tables e below (T25.setTop (mkF m 89 #[.val (.long q1), .second, .val (.long q2), .second, .val (.int p3), .val (.long q1), .second, .val (.long q2), .second, .val (.ref b8), .val (.int (1 : Int32))] [(.int (1 : Int32)), (.int (f4 q1 q2))])) _
                refine XS.icmpYes X25.here hx rfl (pc0 := 89) (pc' := 96) rfl (hb hby at_89) rfl (feq hc28).2 (by decide) (by decide) ?_
                show Steps p.tables e below (T25.setTop (mkF m 96 _ [])) _
                refine XS.iconst X25.here hx rfl (hb hby at_96) ?_
                show Steps p.tables e below (T25.setTop (mkF m 97 #[.val (.long q1), .second, .val (.long q2), .second, .val (.int p3), .val (.long q1), .second, .val (.long q2), .second, .val (.ref b8), .val (.int (1 : Int32))] [(.int (0 : Int32))])) _
                exact retN X25 hx (t := .boolean) Bd.returns (by simp) (hb hby at_97) hr
              · show Q0 Z q1 q2 p3 h0 n0 _ T25.heap _
                rw [e25]
                exact ⟨congrArg (fun z => some (Value.int z)) (by rw [f0, if_pos hc5, if_pos hc7, if_neg hc12, if_neg hc18, if_pos hc24, if_neg hc28] : f0 q1 q2 p3 = (0 : Int32)).symm, N25⟩
          · skip
            have Zs30 : n0 ≤ T9.heap.size := (Nat.le_trans Zs10 Kp9.1)
            obtain ⟨cq29, kq29, q29a, q29b, q29c⟩ := isOf hZ rfl qp9_0
            obtain ⟨_, _, ⟨T29, L29, k29, n29⟩, -, X29, ⟨Lc29, hQ29, l29, y29, z29⟩, st29⟩ := X9.virtualBack hx (y := (⟨"com/example/releve/releve/LinearModel$Variable", "isBoolean", "()Z"⟩ : MethodName)) (z := (⟨"com/example/releve/releve/LinearModel$Variable", "isBoolean", "()Z"⟩ : MethodName)) hown (mvT hZ (hw _ (List.mem_of_getElem? (i := 18) rfl))) (mvT hZ (hw _ (List.mem_of_getElem? (i := 19) rfl))) (notFace_of_selects (args := #[]) (mvT hZ (hw _ (List.mem_of_getElem? (i := 21) rfl)))) (mvT hZ (hw _ (List.mem_of_getElem? (i := 21) rfl))) (mvT hZ (hw _ (List.mem_of_getElem? (i := 20) rfl))) (by decide) (backOf (W := 0) (rm4 l Z a0 hw [] b8 q1 q2 T9.heap n0 Zs30 qp9_1 qp9_2) hZ (hw _ (List.mem_of_getElem? (i := 22) rfl)) (hw _ (List.mem_of_getElem? (i := 2) rfl)) (by decide) (by decide)) q29a q29c (g := (mkF m 84 #[.val (.long q1), .second, .val (.long q2), .second, .val (.int p3), .val (.long q1), .second, .val (.long q2), .second, .val (.ref b8), .val (.int (0 : Int32))] [(.ref b8)])) rfl (by rw [hml]; rfl) (Steps.refl _) (argsL := []) (rest := []) (lenOf pd_0_2 rfl) rfl (by show 2 * 0 + _ ≤ _; exact Nat.le_of_eq rfl) (hb hby at_84) (fun _ _ => ⟨rfl, rfl, (by decide : 1 + 0 ≤ _), (by decide : 2 + 0 ≤ _)⟩)
            dsimp only [Pt.U, Pt.locs, Pt.cells, Pt.slots] at X29 l29 y29 z29 st29 hQ29
            subst l29 y29 z29
            obtain ⟨rfl, N29q, e29⟩ := hQ29
            have N29 := Fr.app N9 N29q
            have pre31 : ∀ t, Steps p.tables e below (T29.setTop (mkF m 89 #[.val (.long q1), .second, .val (.long q2), .second, .val (.int p3), .val (.long q1), .second, .val (.long q2), .second, .val (.ref b8), .val (.int (0 : Int32))] [(.int (0 : Int32)), (.int (f4 q1 q2))])) t → Steps p.tables e below (s₁.setTop (entryFrame m #[(.long q1), (.long q2), (.int p3)] maxLocals)) t := fun t kt => by
              refine pre23 _ ?_
              show Steps p.tables e below (T9.setTop (mkF m 72 #[.val (.long q1), .second, .val (.long q2), .second, .val (.int p3), .val (.long q1), .second, .val (.long q2), .second, .val (.ref b8), .unset] [(.int (lcmpW q1 q2))])) _
              refine XS.ifYes X9.here hx rfl (pc0 := 72) (pc' := 79) rfl (hb hby at_72) rfl ((if0 _ _).trans (flt (mt (lw_lt _ _).mp hc24)).2.1) (by decide) (by decide) ?_
              show Steps p.tables e below (T9.setTop (mkF m 79 _ [])) _
              refine XS.iconst X9.here hx rfl (hb hby at_79) ?_
              show Steps p.tables e below (T9.setTop (mkF m 80 _ [(.int (0 : Int32))])) _
              refine XS.istore X9.here hx rfl (hb hby at_80) rfl (l' := #[.val (.long q1), .second, .val (.long q2), .second, .val (.int p3), .val (.long q1), .second, .val (.long q2), .second, .val (.ref b8), .val (.int (0 : Int32))]) rfl ?_
              show Steps p.tables e below (T9.setTop (mkF m 82 _ [])) _
              refine XS.aload X9.here hx rfl (hb hby at_82) rfl rfl ?_
              show Steps p.tables e below (T9.setTop (mkF m 84 _ [(.ref b8)])) _
              refine st29.trans ?_
              show Steps p.tables e below (T29.setTop (mkF m 87 _ [(.int (f4 q1 q2))])) _
              refine XS.iload X29.here hx rfl (hb hby at_87) rfl ?_
              exact kt
            by_cases hc32 : (f4 q1 q2) = (0 : Int32)
            · skip
              obtain ⟨fs, hr, hrun, hended, hW, hsame⟩ := X29.leave (v := some (.int (1 : Int32))) (fun h => by rw [Bd.returns] at h; cases h) (by first | exact BodyLoose.notSynchronized Bd | exact Body.notSynchronized Bd)
              refine ⟨_, _, pre31 _ ?_, hrun, hended, _, _, rfl, ?_, ⟨_, rfl⟩, hW, hsame.mono (by decide) (by decide)⟩
              · show Steps p.tables e below (T29.setTop (mkF m 89 #[.val (.long q1), .second, .val (.long q2), .second, .val (.int p3), .val (.long q1), .second, .val (.long q2), .second, .val (.ref b8), .val (.int (0 : Int32))] [(.int (0 : Int32)), (.int (f4 q1 q2))])) _
                refine XS.icmpNo X29.here hx rfl (hb hby at_89) rfl (teq hc32).2 ?_
                show Steps p.tables e below (T29.setTop (mkF m 92 _ [])) _
                refine XS.iconst X29.here hx rfl (hb hby at_92) ?_
                show Steps p.tables e below (T29.setTop (mkF m 93 _ [(.int (1 : Int32))])) _
                refine XS.goto X29.here hx rfl (pc0 := 93) (pc' := 97) rfl (hb hby at_93) (by decide) (by decide) ?_
                show Steps p.tables e below (T29.setTop (mkF m 97 #[.val (.long q1), .second, .val (.long q2), .second, .val (.int p3), .val (.long q1), .second, .val (.long q2), .second, .val (.ref b8), .val (.int (0 : Int32))] [(.int (1 : Int32))])) _
                exact retN X29 hx (t := .boolean) Bd.returns (by simp) (hb hby at_97) hr
              · show Q0 Z q1 q2 p3 h0 n0 _ T29.heap _
                rw [e29]
                exact ⟨congrArg (fun z => some (Value.int z)) (by rw [f0, if_pos hc5, if_pos hc7, if_neg hc12, if_neg hc18, if_neg hc24, if_pos hc32] : f0 q1 q2 p3 = (1 : Int32)).symm, N29⟩
            · skip
              obtain ⟨fs, hr, hrun, hended, hW, hsame⟩ := X29.leave (v := some (.int (0 : Int32))) (fun h => by rw [Bd.returns] at h; cases h) (by first | exact BodyLoose.notSynchronized Bd | exact Body.notSynchronized Bd)
              refine ⟨_, _, pre31 _ ?_, hrun, hended, _, _, rfl, ?_, ⟨_, rfl⟩, hW, hsame.mono (by decide) (by decide)⟩
              · show Steps p.tables e below (T29.setTop (mkF m 89 #[.val (.long q1), .second, .val (.long q2), .second, .val (.int p3), .val (.long q1), .second, .val (.long q2), .second, .val (.ref b8), .val (.int (0 : Int32))] [(.int (0 : Int32)), (.int (f4 q1 q2))])) _
                refine XS.icmpYes X29.here hx rfl (pc0 := 89) (pc' := 96) rfl (hb hby at_89) rfl (feq hc32).2 (by decide) (by decide) ?_
                show Steps p.tables e below (T29.setTop (mkF m 96 _ [])) _
                refine XS.iconst X29.here hx rfl (hb hby at_96) ?_
                show Steps p.tables e below (T29.setTop (mkF m 97 #[.val (.long q1), .second, .val (.long q2), .second, .val (.int p3), .val (.long q1), .second, .val (.long q2), .second, .val (.ref b8), .val (.int (0 : Int32))] [(.int (0 : Int32))])) _
                exact retN X29 hx (t := .boolean) Bd.returns (by simp) (hb hby at_97) hr
              · show Q0 Z q1 q2 p3 h0 n0 _ T29.heap _
                rw [e29]
                exact ⟨congrArg (fun z => some (Value.int z)) (by rw [f0, if_pos hc5, if_pos hc7, if_neg hc12, if_neg hc18, if_neg hc24, if_neg hc32] : f0 q1 q2 p3 = (0 : Int32)).symm, N29⟩
    · skip
      obtain ⟨T33, h33, X33, e33, E33, A33, D33, -, st33⟩ := newO X0 hx hZ hown (hw _ (List.mem_of_getElem? (i := 0) rfl)) (hw _ (List.mem_of_getElem? (i := 1) rfl)) (hw _ (List.mem_of_getElem? (i := 2) rfl)) e0 (g := (mkF m 40 #[.val (.long q1), .second, .val (.long q2), .second, .val (.int p3), .val (.long q1), .second, .val (.long ((q2 &&& (3 : Int64)) - (1 : Int64))), .second, .unset, .unset] [])) rfl (hb hby at_40) (by decide) (by decide)
      obtain ⟨b33, g33⟩ : ∃ z, z = h0.size := ⟨_, rfl⟩
      rw [← g33] at A33 D33 st33
      have g_b33 : n0 ≤ b33 := Nat.le_trans Z0 (Nat.le_of_eq g33.symm)
      have F_lower_b33 : Fld Z h33 b33 "com/example/releve/releve/LinearModel$Variable" "lower" "J" (.long (0 : Int64)) := D33 (Or.inr (hw _ (List.mem_of_getElem? (i := 15) rfl))) (ty := .long) (by decide)
      have F_upper_b33 : Fld Z h33 b33 "com/example/releve/releve/LinearModel$Variable" "upper" "J" (.long (0 : Int64)) := D33 (Or.inr (hw _ (List.mem_of_getElem? (i := 17) rfl))) (ty := .long) (by decide)
      have Zs35 : n0 ≤ h33.size := (Nat.le_trans Z0 E33.1)
      obtain ⟨_, _, ⟨T34, L34, k34, n34⟩, -, X34, ⟨Lc34, hQ34, l34, y34, z34⟩, st34⟩ := X33.specialBack hx (y := (⟨"com/example/releve/releve/LinearModel$Variable", "<init>", "(JJ)V"⟩ : MethodName)) rfl hown (mvT hZ (hw _ (List.mem_of_getElem? (i := 3) rfl))) (mvT hZ (hw _ (List.mem_of_getElem? (i := 4) rfl))) (mvT hZ (hw _ (List.mem_of_getElem? (i := 5) rfl))) (by decide) (backOf (W := 1) (rm1 l Z a0 hw [] b33 q1 ((q2 &&& (3 : Int64)) - (1 : Int64)) (.long (0 : Int64)) (.long (0 : Int64)) h33 n0 Zs35 A33 F_lower_b33 F_upper_b33 g_b33) hZ (hw _ (List.mem_of_getElem? (i := 5) rfl)) (hw _ (List.mem_of_getElem? (i := 2) rfl)) (by decide) (by decide)) (g := (mkF m 48 #[.val (.long q1), .second, .val (.long q2), .second, .val (.int p3), .val (.long q1), .second, .val (.long ((q2 &&& (3 : Int64)) - (1 : Int64))), .second, .unset, .unset] [(.long ((q2 &&& (3 : Int64)) - (1 : Int64))), (.long q1), (.ref b33), (.ref b33)])) rfl (by rw [hml]; rfl) (Steps.refl _) (a := b33) (argsL := [(.long q1), (.long ((q2 &&& (3 : Int64)) - (1 : Int64)))]) (rest := [(.ref b33)]) (lenOf pd_0_0 rfl) rfl (by show 2 * 0 + _ ≤ _; exact Nat.le_of_eq rfl) (hb hby at_48) (fun _ _ => ⟨rfl, e33, (by decide : 1 + 0 ≤ _), (by decide : 2 + 0 ≤ _)⟩)
      dsimp only [Pt.U, Pt.locs, Pt.cells, Pt.slots] at X34 l34 y34 z34 st34 hQ34
      subst l34 y34 z34
      obtain ⟨rfl, N34q, Kp34, qp34_0, qp34_1, qp34_2⟩ := hQ34
      have N34 := Fr.app N0 N34q
      have pre36 : ∀ t, Steps p.tables e below (T34.setTop (mkF m 57 #[.val (.long q1), .second, .val (.long q2), .second, .val (.int p3), .val (.long q1), .second, .val (.long ((q2 &&& (3 : Int64)) - (1 : Int64))), .second, .val (.ref b33), .unset] [(.int (lcmpW q1 (0 : Int64)))])) t → Steps p.tables e below (s₁.setTop (entryFrame m #[(.long q1), (.long q2), (.int p3)] maxLocals)) t := fun t kt => by
        refine pre6 _ ?_
        show Steps p.tables e below (s₁.setTop (mkF m 24 #[.val (.long q1), .second, .val (.long q2), .second, .val (.int p3), .val (.long q1), .second, .unset, .unset, .unset, .unset] [(.int (p3 &&& (2 : Int32)))])) _
        refine XS.ifNo X0.here hx rfl (hb hby at_24) rfl ((if0 _ _).trans (feq hc7).1) ?_
        show Steps p.tables e below (s₁.setTop (mkF m 27 _ [])) _
        refine XS.lloadN X0.here hx rfl (hb hby at_27) rfl ?_
        show Steps p.tables e below (s₁.setTop (mkF m 28 _ [(.long q2)])) _
        refine X0.ldc2Long hx hown (mvT hZ (hw _ (List.mem_of_getElem? (i := 23) rfl))) (g := (mkF m 28 #[.val (.long q1), .second, .val (.long q2), .second, .val (.int p3), .val (.long q1), .second, .unset, .unset, .unset, .unset] [(.long q2)])) rfl (hb hby at_28) _ ?_
        show Steps p.tables e below (s₁.setTop (mkF m 31 _ [(.long (3 : Int64)), (.long q2)])) _
        refine XS.land X0.here hx rfl (hb hby at_31) rfl ?_
        show Steps p.tables e below (s₁.setTop (mkF m 32 _ [(.long (q2 &&& (3 : Int64)))])) _
        refine XS.lconst X0.here hx rfl (hb hby at_32) ?_
        show Steps p.tables e below (s₁.setTop (mkF m 33 _ [(.long (1 : Int64)), (.long (q2 &&& (3 : Int64)))])) _
        refine XS.lsub X0.here hx rfl (hb hby at_33) rfl ?_
        show Steps p.tables e below (s₁.setTop (mkF m 34 _ [(.long ((q2 &&& (3 : Int64)) - (1 : Int64)))])) _
        refine XS.goto X0.here hx rfl (pc0 := 34) (pc' := 38) rfl (hb hby at_34) (by decide) (by decide) ?_
        show Steps p.tables e below (s₁.setTop (mkF m 38 _ [(.long ((q2 &&& (3 : Int64)) - (1 : Int64)))])) _
        refine XS.lstore X0.here hx rfl (hb hby at_38) rfl (l' := #[.val (.long q1), .second, .val (.long q2), .second, .val (.int p3), .val (.long q1), .second, .val (.long ((q2 &&& (3 : Int64)) - (1 : Int64))), .second, .unset, .unset]) rfl ?_
        show Steps p.tables e below (s₁.setTop (mkF m 40 _ [])) _
        refine st33 _ ?_
        show Steps p.tables e below (T33.setTop (mkF m 43 _ [(.ref b33)])) _
        refine XS.dup X33.here hx rfl (hb hby at_43) rfl rfl ?_
        show Steps p.tables e below (T33.setTop (mkF m 44 _ [(.ref b33), (.ref b33)])) _
        refine XS.lload X33.here hx rfl (hb hby at_44) rfl ?_
        show Steps p.tables e below (T33.setTop (mkF m 46 _ [(.long q1), (.ref b33), (.ref b33)])) _
        refine XS.lload X33.here hx rfl (hb hby at_46) rfl ?_
        show Steps p.tables e below (T33.setTop (mkF m 48 _ [(.long ((q2 &&& (3 : Int64)) - (1 : Int64))), (.long q1), (.ref b33), (.ref b33)])) _
        refine st34.trans ?_
        show Steps p.tables e below (T34.setTop (mkF m 51 _ [(.ref b33)])) _
        refine XS.astore X34.here hx rfl (hb hby at_51) rfl rfl (l' := #[.val (.long q1), .second, .val (.long q2), .second, .val (.int p3), .val (.long q1), .second, .val (.long ((q2 &&& (3 : Int64)) - (1 : Int64))), .second, .val (.ref b33), .unset]) rfl ?_
        show Steps p.tables e below (T34.setTop (mkF m 53 _ [])) _
        refine XS.lload X34.here hx rfl (hb hby at_53) rfl ?_
        show Steps p.tables e below (T34.setTop (mkF m 55 _ [(.long q1)])) _
        refine XS.lconst X34.here hx rfl (hb hby at_55) ?_
        show Steps p.tables e below (T34.setTop (mkF m 56 _ [(.long (0 : Int64)), (.long q1)])) _
        refine XS.lcmp X34.here hx rfl (hb hby at_56) rfl ?_
        exact kt
      by_cases hc37 : q1 < (0 : Int64)
      · skip
        have Zs39 : n0 ≤ T34.heap.size := (Nat.le_trans Zs35 Kp34.1)
        obtain ⟨cq38, kq38, q38a, q38b, q38c⟩ := isOf hZ rfl qp34_0
        obtain ⟨_, _, ⟨T38, L38, k38, n38⟩, -, X38, ⟨Lc38, hQ38, l38, y38, z38⟩, st38⟩ := X34.virtualBack hx (y := (⟨"com/example/releve/releve/LinearModel$Variable", "isBoolean", "()Z"⟩ : MethodName)) (z := (⟨"com/example/releve/releve/LinearModel$Variable", "isBoolean", "()Z"⟩ : MethodName)) hown (mvT hZ (hw _ (List.mem_of_getElem? (i := 18) rfl))) (mvT hZ (hw _ (List.mem_of_getElem? (i := 19) rfl))) (notFace_of_selects (args := #[]) (mvT hZ (hw _ (List.mem_of_getElem? (i := 21) rfl)))) (mvT hZ (hw _ (List.mem_of_getElem? (i := 21) rfl))) (mvT hZ (hw _ (List.mem_of_getElem? (i := 20) rfl))) (by decide) (backOf (W := 0) (rm4 l Z a0 hw [] b33 q1 ((q2 &&& (3 : Int64)) - (1 : Int64)) T34.heap n0 Zs39 qp34_1 qp34_2) hZ (hw _ (List.mem_of_getElem? (i := 22) rfl)) (hw _ (List.mem_of_getElem? (i := 2) rfl)) (by decide) (by decide)) q38a q38c (g := (mkF m 84 #[.val (.long q1), .second, .val (.long q2), .second, .val (.int p3), .val (.long q1), .second, .val (.long ((q2 &&& (3 : Int64)) - (1 : Int64))), .second, .val (.ref b33), .val (.int (0 : Int32))] [(.ref b33)])) rfl (by rw [hml]; rfl) (Steps.refl _) (argsL := []) (rest := []) (lenOf pd_0_2 rfl) rfl (by show 2 * 0 + _ ≤ _; exact Nat.le_of_eq rfl) (hb hby at_84) (fun _ _ => ⟨rfl, rfl, (by decide : 1 + 0 ≤ _), (by decide : 2 + 0 ≤ _)⟩)
        dsimp only [Pt.U, Pt.locs, Pt.cells, Pt.slots] at X38 l38 y38 z38 st38 hQ38
        subst l38 y38 z38
        obtain ⟨rfl, N38q, e38⟩ := hQ38
        have N38 := Fr.app N34 N38q
        have pre40 : ∀ t, Steps p.tables e below (T38.setTop (mkF m 89 #[.val (.long q1), .second, .val (.long q2), .second, .val (.int p3), .val (.long q1), .second, .val (.long ((q2 &&& (3 : Int64)) - (1 : Int64))), .second, .val (.ref b33), .val (.int (0 : Int32))] [(.int (0 : Int32)), (.int (f4 q1 ((q2 &&& (3 : Int64)) - (1 : Int64))))])) t → Steps p.tables e below (s₁.setTop (entryFrame m #[(.long q1), (.long q2), (.int p3)] maxLocals)) t := fun t kt => by
          refine pre36 _ ?_
          show Steps p.tables e below (T34.setTop (mkF m 57 #[.val (.long q1), .second, .val (.long q2), .second, .val (.int p3), .val (.long q1), .second, .val (.long ((q2 &&& (3 : Int64)) - (1 : Int64))), .second, .val (.ref b33), .unset] [(.int (lcmpW q1 (0 : Int64)))])) _
          refine XS.ifYes X34.here hx rfl (pc0 := 57) (pc' := 79) rfl (hb hby at_57) rfl ((if0 _ _).trans (tlt ((lw_lt _ _).mpr hc37)).1) (by decide) (by decide) ?_
          show Steps p.tables e below (T34.setTop (mkF m 79 _ [])) _
          refine XS.iconst X34.here hx rfl (hb hby at_79) ?_
          show Steps p.tables e below (T34.setTop (mkF m 80 _ [(.int (0 : Int32))])) _
          refine XS.istore X34.here hx rfl (hb hby at_80) rfl (l' := #[.val (.long q1), .second, .val (.long q2), .second, .val (.int p3), .val (.long q1), .second, .val (.long ((q2 &&& (3 : Int64)) - (1 : Int64))), .second, .val (.ref b33), .val (.int (0 : Int32))]) rfl ?_
          show Steps p.tables e below (T34.setTop (mkF m 82 _ [])) _
          refine XS.aload X34.here hx rfl (hb hby at_82) rfl rfl ?_
          show Steps p.tables e below (T34.setTop (mkF m 84 _ [(.ref b33)])) _
          refine st38.trans ?_
          show Steps p.tables e below (T38.setTop (mkF m 87 _ [(.int (f4 q1 ((q2 &&& (3 : Int64)) - (1 : Int64))))])) _
          refine XS.iload X38.here hx rfl (hb hby at_87) rfl ?_
          exact kt
        by_cases hc41 : (f4 q1 ((q2 &&& (3 : Int64)) - (1 : Int64))) = (0 : Int32)
        · skip
          obtain ⟨fs, hr, hrun, hended, hW, hsame⟩ := X38.leave (v := some (.int (1 : Int32))) (fun h => by rw [Bd.returns] at h; cases h) (by first | exact BodyLoose.notSynchronized Bd | exact Body.notSynchronized Bd)
          refine ⟨_, _, pre40 _ ?_, hrun, hended, _, _, rfl, ?_, ⟨_, rfl⟩, hW, hsame.mono (by decide) (by decide)⟩
          · show Steps p.tables e below (T38.setTop (mkF m 89 #[.val (.long q1), .second, .val (.long q2), .second, .val (.int p3), .val (.long q1), .second, .val (.long ((q2 &&& (3 : Int64)) - (1 : Int64))), .second, .val (.ref b33), .val (.int (0 : Int32))] [(.int (0 : Int32)), (.int (f4 q1 ((q2 &&& (3 : Int64)) - (1 : Int64))))])) _
            refine XS.icmpNo X38.here hx rfl (hb hby at_89) rfl (teq hc41).2 ?_
            show Steps p.tables e below (T38.setTop (mkF m 92 _ [])) _
            refine XS.iconst X38.here hx rfl (hb hby at_92) ?_
            show Steps p.tables e below (T38.setTop (mkF m 93 _ [(.int (1 : Int32))])) _
            refine XS.goto X38.here hx rfl (pc0 := 93) (pc' := 97) rfl (hb hby at_93) (by decide) (by decide) ?_
            show Steps p.tables e below (T38.setTop (mkF m 97 #[.val (.long q1), .second, .val (.long q2), .second, .val (.int p3), .val (.long q1), .second, .val (.long ((q2 &&& (3 : Int64)) - (1 : Int64))), .second, .val (.ref b33), .val (.int (0 : Int32))] [(.int (1 : Int32))])) _
            exact retN X38 hx (t := .boolean) Bd.returns (by simp) (hb hby at_97) hr
          · show Q0 Z q1 q2 p3 h0 n0 _ T38.heap _
            rw [e38]
            exact ⟨congrArg (fun z => some (Value.int z)) (by rw [f0, if_pos hc5, if_neg hc7, if_pos hc37, if_pos hc41] : f0 q1 q2 p3 = (1 : Int32)).symm, N38⟩
        · skip
          obtain ⟨fs, hr, hrun, hended, hW, hsame⟩ := X38.leave (v := some (.int (0 : Int32))) (fun h => by rw [Bd.returns] at h; cases h) (by first | exact BodyLoose.notSynchronized Bd | exact Body.notSynchronized Bd)
          refine ⟨_, _, pre40 _ ?_, hrun, hended, _, _, rfl, ?_, ⟨_, rfl⟩, hW, hsame.mono (by decide) (by decide)⟩
          · show Steps p.tables e below (T38.setTop (mkF m 89 #[.val (.long q1), .second, .val (.long q2), .second, .val (.int p3), .val (.long q1), .second, .val (.long ((q2 &&& (3 : Int64)) - (1 : Int64))), .second, .val (.ref b33), .val (.int (0 : Int32))] [(.int (0 : Int32)), (.int (f4 q1 ((q2 &&& (3 : Int64)) - (1 : Int64))))])) _
            refine XS.icmpYes X38.here hx rfl (pc0 := 89) (pc' := 96) rfl (hb hby at_89) rfl (feq hc41).2 (by decide) (by decide) ?_
            show Steps p.tables e below (T38.setTop (mkF m 96 _ [])) _
            refine XS.iconst X38.here hx rfl (hb hby at_96) ?_
            show Steps p.tables e below (T38.setTop (mkF m 97 #[.val (.long q1), .second, .val (.long q2), .second, .val (.int p3), .val (.long q1), .second, .val (.long ((q2 &&& (3 : Int64)) - (1 : Int64))), .second, .val (.ref b33), .val (.int (0 : Int32))] [(.int (0 : Int32))])) _
            exact retN X38 hx (t := .boolean) Bd.returns (by simp) (hb hby at_97) hr
          · show Q0 Z q1 q2 p3 h0 n0 _ T38.heap _
            rw [e38]
            exact ⟨congrArg (fun z => some (Value.int z)) (by rw [f0, if_pos hc5, if_neg hc7, if_pos hc37, if_neg hc41] : f0 q1 q2 p3 = (0 : Int32)).symm, N38⟩
      · skip
        have pre42 : ∀ t, Steps p.tables e below (T34.setTop (mkF m 64 #[.val (.long q1), .second, .val (.long q2), .second, .val (.int p3), .val (.long q1), .second, .val (.long ((q2 &&& (3 : Int64)) - (1 : Int64))), .second, .val (.ref b33), .unset] [(.int (lcmpW ((q2 &&& (3 : Int64)) - (1 : Int64)) (1 : Int64)))])) t → Steps p.tables e below (s₁.setTop (entryFrame m #[(.long q1), (.long q2), (.int p3)] maxLocals)) t := fun t kt => by
          refine pre36 _ ?_
          show Steps p.tables e below (T34.setTop (mkF m 57 #[.val (.long q1), .second, .val (.long q2), .second, .val (.int p3), .val (.long q1), .second, .val (.long ((q2 &&& (3 : Int64)) - (1 : Int64))), .second, .val (.ref b33), .unset] [(.int (lcmpW q1 (0 : Int64)))])) _
          refine XS.ifNo X34.here hx rfl (hb hby at_57) rfl ((if0 _ _).trans (flt (mt (lw_lt _ _).mp hc37)).1) ?_
          show Steps p.tables e below (T34.setTop (mkF m 60 _ [])) _
          refine XS.lload X34.here hx rfl (hb hby at_60) rfl ?_
          show Steps p.tables e below (T34.setTop (mkF m 62 _ [(.long ((q2 &&& (3 : Int64)) - (1 : Int64)))])) _
          refine XS.lconst X34.here hx rfl (hb hby at_62) ?_
          show Steps p.tables e below (T34.setTop (mkF m 63 _ [(.long (1 : Int64)), (.long ((q2 &&& (3 : Int64)) - (1 : Int64)))])) _
          refine XS.lcmp X34.here hx rfl (hb hby at_63) rfl ?_
          exact kt
        by_cases hc43 : (1 : Int64) < ((q2 &&& (3 : Int64)) - (1 : Int64))
        · skip
          have Zs45 : n0 ≤ T34.heap.size := (Nat.le_trans Zs35 Kp34.1)
          obtain ⟨cq44, kq44, q44a, q44b, q44c⟩ := isOf hZ rfl qp34_0
          obtain ⟨_, _, ⟨T44, L44, k44, n44⟩, -, X44, ⟨Lc44, hQ44, l44, y44, z44⟩, st44⟩ := X34.virtualBack hx (y := (⟨"com/example/releve/releve/LinearModel$Variable", "isBoolean", "()Z"⟩ : MethodName)) (z := (⟨"com/example/releve/releve/LinearModel$Variable", "isBoolean", "()Z"⟩ : MethodName)) hown (mvT hZ (hw _ (List.mem_of_getElem? (i := 18) rfl))) (mvT hZ (hw _ (List.mem_of_getElem? (i := 19) rfl))) (notFace_of_selects (args := #[]) (mvT hZ (hw _ (List.mem_of_getElem? (i := 21) rfl)))) (mvT hZ (hw _ (List.mem_of_getElem? (i := 21) rfl))) (mvT hZ (hw _ (List.mem_of_getElem? (i := 20) rfl))) (by decide) (backOf (W := 0) (rm4 l Z a0 hw [] b33 q1 ((q2 &&& (3 : Int64)) - (1 : Int64)) T34.heap n0 Zs45 qp34_1 qp34_2) hZ (hw _ (List.mem_of_getElem? (i := 22) rfl)) (hw _ (List.mem_of_getElem? (i := 2) rfl)) (by decide) (by decide)) q44a q44c (g := (mkF m 84 #[.val (.long q1), .second, .val (.long q2), .second, .val (.int p3), .val (.long q1), .second, .val (.long ((q2 &&& (3 : Int64)) - (1 : Int64))), .second, .val (.ref b33), .val (.int (0 : Int32))] [(.ref b33)])) rfl (by rw [hml]; rfl) (Steps.refl _) (argsL := []) (rest := []) (lenOf pd_0_2 rfl) rfl (by show 2 * 0 + _ ≤ _; exact Nat.le_of_eq rfl) (hb hby at_84) (fun _ _ => ⟨rfl, rfl, (by decide : 1 + 0 ≤ _), (by decide : 2 + 0 ≤ _)⟩)
          dsimp only [Pt.U, Pt.locs, Pt.cells, Pt.slots] at X44 l44 y44 z44 st44 hQ44
          subst l44 y44 z44
          obtain ⟨rfl, N44q, e44⟩ := hQ44
          have N44 := Fr.app N34 N44q
          have pre46 : ∀ t, Steps p.tables e below (T44.setTop (mkF m 89 #[.val (.long q1), .second, .val (.long q2), .second, .val (.int p3), .val (.long q1), .second, .val (.long ((q2 &&& (3 : Int64)) - (1 : Int64))), .second, .val (.ref b33), .val (.int (0 : Int32))] [(.int (0 : Int32)), (.int (f4 q1 ((q2 &&& (3 : Int64)) - (1 : Int64))))])) t → Steps p.tables e below (s₁.setTop (entryFrame m #[(.long q1), (.long q2), (.int p3)] maxLocals)) t := fun t kt => by
            refine pre42 _ ?_
            show Steps p.tables e below (T34.setTop (mkF m 64 #[.val (.long q1), .second, .val (.long q2), .second, .val (.int p3), .val (.long q1), .second, .val (.long ((q2 &&& (3 : Int64)) - (1 : Int64))), .second, .val (.ref b33), .unset] [(.int (lcmpW ((q2 &&& (3 : Int64)) - (1 : Int64)) (1 : Int64)))])) _
            refine XS.ifYes X34.here hx rfl (pc0 := 64) (pc' := 79) rfl (hb hby at_64) rfl ((if0 _ _).trans (tlt ((lw_gt _ _).mpr hc43)).2.2.1) (by decide) (by decide) ?_
            show Steps p.tables e below (T34.setTop (mkF m 79 _ [])) _
            refine XS.iconst X34.here hx rfl (hb hby at_79) ?_
            show Steps p.tables e below (T34.setTop (mkF m 80 _ [(.int (0 : Int32))])) _
            refine XS.istore X34.here hx rfl (hb hby at_80) rfl (l' := #[.val (.long q1), .second, .val (.long q2), .second, .val (.int p3), .val (.long q1), .second, .val (.long ((q2 &&& (3 : Int64)) - (1 : Int64))), .second, .val (.ref b33), .val (.int (0 : Int32))]) rfl ?_
            show Steps p.tables e below (T34.setTop (mkF m 82 _ [])) _
            refine XS.aload X34.here hx rfl (hb hby at_82) rfl rfl ?_
            show Steps p.tables e below (T34.setTop (mkF m 84 _ [(.ref b33)])) _
            refine st44.trans ?_
            show Steps p.tables e below (T44.setTop (mkF m 87 _ [(.int (f4 q1 ((q2 &&& (3 : Int64)) - (1 : Int64))))])) _
            refine XS.iload X44.here hx rfl (hb hby at_87) rfl ?_
            exact kt
          by_cases hc47 : (f4 q1 ((q2 &&& (3 : Int64)) - (1 : Int64))) = (0 : Int32)
          · skip
            obtain ⟨fs, hr, hrun, hended, hW, hsame⟩ := X44.leave (v := some (.int (1 : Int32))) (fun h => by rw [Bd.returns] at h; cases h) (by first | exact BodyLoose.notSynchronized Bd | exact Body.notSynchronized Bd)
            refine ⟨_, _, pre46 _ ?_, hrun, hended, _, _, rfl, ?_, ⟨_, rfl⟩, hW, hsame.mono (by decide) (by decide)⟩
            · show Steps p.tables e below (T44.setTop (mkF m 89 #[.val (.long q1), .second, .val (.long q2), .second, .val (.int p3), .val (.long q1), .second, .val (.long ((q2 &&& (3 : Int64)) - (1 : Int64))), .second, .val (.ref b33), .val (.int (0 : Int32))] [(.int (0 : Int32)), (.int (f4 q1 ((q2 &&& (3 : Int64)) - (1 : Int64))))])) _
              refine XS.icmpNo X44.here hx rfl (hb hby at_89) rfl (teq hc47).2 ?_
              show Steps p.tables e below (T44.setTop (mkF m 92 _ [])) _
              refine XS.iconst X44.here hx rfl (hb hby at_92) ?_
              show Steps p.tables e below (T44.setTop (mkF m 93 _ [(.int (1 : Int32))])) _
              refine XS.goto X44.here hx rfl (pc0 := 93) (pc' := 97) rfl (hb hby at_93) (by decide) (by decide) ?_
              show Steps p.tables e below (T44.setTop (mkF m 97 #[.val (.long q1), .second, .val (.long q2), .second, .val (.int p3), .val (.long q1), .second, .val (.long ((q2 &&& (3 : Int64)) - (1 : Int64))), .second, .val (.ref b33), .val (.int (0 : Int32))] [(.int (1 : Int32))])) _
              exact retN X44 hx (t := .boolean) Bd.returns (by simp) (hb hby at_97) hr
            · show Q0 Z q1 q2 p3 h0 n0 _ T44.heap _
              rw [e44]
              exact ⟨congrArg (fun z => some (Value.int z)) (by rw [f0, if_pos hc5, if_neg hc7, if_neg hc37, if_pos hc43, if_pos hc47] : f0 q1 q2 p3 = (1 : Int32)).symm, N44⟩
          · skip
            obtain ⟨fs, hr, hrun, hended, hW, hsame⟩ := X44.leave (v := some (.int (0 : Int32))) (fun h => by rw [Bd.returns] at h; cases h) (by first | exact BodyLoose.notSynchronized Bd | exact Body.notSynchronized Bd)
            refine ⟨_, _, pre46 _ ?_, hrun, hended, _, _, rfl, ?_, ⟨_, rfl⟩, hW, hsame.mono (by decide) (by decide)⟩
            · show Steps p.tables e below (T44.setTop (mkF m 89 #[.val (.long q1), .second, .val (.long q2), .second, .val (.int p3), .val (.long q1), .second, .val (.long ((q2 &&& (3 : Int64)) - (1 : Int64))), .second, .val (.ref b33), .val (.int (0 : Int32))] [(.int (0 : Int32)), (.int (f4 q1 ((q2 &&& (3 : Int64)) - (1 : Int64))))])) _
              refine XS.icmpYes X44.here hx rfl (pc0 := 89) (pc' := 96) rfl (hb hby at_89) rfl (feq hc47).2 (by decide) (by decide) ?_
              show Steps p.tables e below (T44.setTop (mkF m 96 _ [])) _
              refine XS.iconst X44.here hx rfl (hb hby at_96) ?_
              show Steps p.tables e below (T44.setTop (mkF m 97 #[.val (.long q1), .second, .val (.long q2), .second, .val (.int p3), .val (.long q1), .second, .val (.long ((q2 &&& (3 : Int64)) - (1 : Int64))), .second, .val (.ref b33), .val (.int (0 : Int32))] [(.int (0 : Int32))])) _
              exact retN X44 hx (t := .boolean) Bd.returns (by simp) (hb hby at_97) hr
            · show Q0 Z q1 q2 p3 h0 n0 _ T44.heap _
              rw [e44]
              exact ⟨congrArg (fun z => some (Value.int z)) (by rw [f0, if_pos hc5, if_neg hc7, if_neg hc37, if_pos hc43, if_neg hc47] : f0 q1 q2 p3 = (0 : Int32)).symm, N44⟩
        · skip
          have pre48 : ∀ t, Steps p.tables e below (T34.setTop (mkF m 72 #[.val (.long q1), .second, .val (.long q2), .second, .val (.int p3), .val (.long q1), .second, .val (.long ((q2 &&& (3 : Int64)) - (1 : Int64))), .second, .val (.ref b33), .unset] [(.int (lcmpW q1 ((q2 &&& (3 : Int64)) - (1 : Int64))))])) t → Steps p.tables e below (s₁.setTop (entryFrame m #[(.long q1), (.long q2), (.int p3)] maxLocals)) t := fun t kt => by
            refine pre42 _ ?_
            show Steps p.tables e below (T34.setTop (mkF m 64 #[.val (.long q1), .second, .val (.long q2), .second, .val (.int p3), .val (.long q1), .second, .val (.long ((q2 &&& (3 : Int64)) - (1 : Int64))), .second, .val (.ref b33), .unset] [(.int (lcmpW ((q2 &&& (3 : Int64)) - (1 : Int64)) (1 : Int64)))])) _
            refine XS.ifNo X34.here hx rfl (hb hby at_64) rfl ((if0 _ _).trans (flt (mt (lw_gt _ _).mp hc43)).2.2.1) ?_
            show Steps p.tables e below (T34.setTop (mkF m 67 _ [])) _
            refine XS.lload X34.here hx rfl (hb hby at_67) rfl ?_
            show Steps p.tables e below (T34.setTop (mkF m 69 _ [(.long q1)])) _
            refine XS.lload X34.here hx rfl (hb hby at_69) rfl ?_
            show Steps p.tables e below (T34.setTop (mkF m 71 _ [(.long ((q2 &&& (3 : Int64)) - (1 : Int64))), (.long q1)])) _
            refine XS.lcmp X34.here hx rfl (hb hby at_71) rfl ?_
            exact kt
          by_cases hc49 : q1 < ((q2 &&& (3 : Int64)) - (1 : Int64))
          · skip
            have Zs51 : n0 ≤ T34.heap.size := (Nat.le_trans Zs35 Kp34.1)
            obtain ⟨cq50, kq50, q50a, q50b, q50c⟩ := isOf hZ rfl qp34_0
            obtain ⟨_, _, ⟨T50, L50, k50, n50⟩, -, X50, ⟨Lc50, hQ50, l50, y50, z50⟩, st50⟩ := X34.virtualBack hx (y := (⟨"com/example/releve/releve/LinearModel$Variable", "isBoolean", "()Z"⟩ : MethodName)) (z := (⟨"com/example/releve/releve/LinearModel$Variable", "isBoolean", "()Z"⟩ : MethodName)) hown (mvT hZ (hw _ (List.mem_of_getElem? (i := 18) rfl))) (mvT hZ (hw _ (List.mem_of_getElem? (i := 19) rfl))) (notFace_of_selects (args := #[]) (mvT hZ (hw _ (List.mem_of_getElem? (i := 21) rfl)))) (mvT hZ (hw _ (List.mem_of_getElem? (i := 21) rfl))) (mvT hZ (hw _ (List.mem_of_getElem? (i := 20) rfl))) (by decide) (backOf (W := 0) (rm4 l Z a0 hw [] b33 q1 ((q2 &&& (3 : Int64)) - (1 : Int64)) T34.heap n0 Zs51 qp34_1 qp34_2) hZ (hw _ (List.mem_of_getElem? (i := 22) rfl)) (hw _ (List.mem_of_getElem? (i := 2) rfl)) (by decide) (by decide)) q50a q50c (g := (mkF m 84 #[.val (.long q1), .second, .val (.long q2), .second, .val (.int p3), .val (.long q1), .second, .val (.long ((q2 &&& (3 : Int64)) - (1 : Int64))), .second, .val (.ref b33), .val (.int (1 : Int32))] [(.ref b33)])) rfl (by rw [hml]; rfl) (Steps.refl _) (argsL := []) (rest := []) (lenOf pd_0_2 rfl) rfl (by show 2 * 0 + _ ≤ _; exact Nat.le_of_eq rfl) (hb hby at_84) (fun _ _ => ⟨rfl, rfl, (by decide : 1 + 0 ≤ _), (by decide : 2 + 0 ≤ _)⟩)
            dsimp only [Pt.U, Pt.locs, Pt.cells, Pt.slots] at X50 l50 y50 z50 st50 hQ50
            subst l50 y50 z50
            obtain ⟨rfl, N50q, e50⟩ := hQ50
            have N50 := Fr.app N34 N50q
            have pre52 : ∀ t, Steps p.tables e below (T50.setTop (mkF m 89 #[.val (.long q1), .second, .val (.long q2), .second, .val (.int p3), .val (.long q1), .second, .val (.long ((q2 &&& (3 : Int64)) - (1 : Int64))), .second, .val (.ref b33), .val (.int (1 : Int32))] [(.int (1 : Int32)), (.int (f4 q1 ((q2 &&& (3 : Int64)) - (1 : Int64))))])) t → Steps p.tables e below (s₁.setTop (entryFrame m #[(.long q1), (.long q2), (.int p3)] maxLocals)) t := fun t kt => by
              refine pre48 _ ?_
              show Steps p.tables e below (T34.setTop (mkF m 72 #[.val (.long q1), .second, .val (.long q2), .second, .val (.int p3), .val (.long q1), .second, .val (.long ((q2 &&& (3 : Int64)) - (1 : Int64))), .second, .val (.ref b33), .unset] [(.int (lcmpW q1 ((q2 &&& (3 : Int64)) - (1 : Int64))))])) _
              refine XS.ifNo X34.here hx rfl (hb hby at_72) rfl ((if0 _ _).trans (tlt ((lw_lt _ _).mpr hc49)).2.1) ?_
              show Steps p.tables e below (T34.setTop (mkF m 75 _ [])) _
              refine XS.iconst X34.here hx rfl (hb hby at_75) ?_
              show Steps p.tables e below (T34.setTop (mkF m 76 _ [(.int (1 : Int32))])) _
              refine XS.goto X34.here hx rfl (pc0 := 76) (pc' := 80) rfl (hb hby at_76) (by decide) (by decide) ?_
              show Steps p.tables e below (T34.setTop (mkF m 80 _ [(.int (1 : Int32))])) _
              refine XS.istore X34.here hx rfl (hb hby at_80) rfl (l' := #[.val (.long q1), .second, .val (.long q2), .second, .val (.int p3), .val (.long q1), .second, .val (.long ((q2 &&& (3 : Int64)) - (1 : Int64))), .second, .val (.ref b33), .val (.int (1 : Int32))]) rfl ?_
              show Steps p.tables e below (T34.setTop (mkF m 82 _ [])) _
              refine XS.aload X34.here hx rfl (hb hby at_82) rfl rfl ?_
              show Steps p.tables e below (T34.setTop (mkF m 84 _ [(.ref b33)])) _
              refine st50.trans ?_
              show Steps p.tables e below (T50.setTop (mkF m 87 _ [(.int (f4 q1 ((q2 &&& (3 : Int64)) - (1 : Int64))))])) _
              refine XS.iload X50.here hx rfl (hb hby at_87) rfl ?_
              exact kt
            by_cases hc53 : (f4 q1 ((q2 &&& (3 : Int64)) - (1 : Int64))) = (1 : Int32)
            · skip
              obtain ⟨fs, hr, hrun, hended, hW, hsame⟩ := X50.leave (v := some (.int (1 : Int32))) (fun h => by rw [Bd.returns] at h; cases h) (by first | exact BodyLoose.notSynchronized Bd | exact Body.notSynchronized Bd)
              refine ⟨_, _, pre52 _ ?_, hrun, hended, _, _, rfl, ?_, ⟨_, rfl⟩, hW, hsame.mono (by decide) (by decide)⟩
              · show Steps p.tables e below (T50.setTop (mkF m 89 #[.val (.long q1), .second, .val (.long q2), .second, .val (.int p3), .val (.long q1), .second, .val (.long ((q2 &&& (3 : Int64)) - (1 : Int64))), .second, .val (.ref b33), .val (.int (1 : Int32))] [(.int (1 : Int32)), (.int (f4 q1 ((q2 &&& (3 : Int64)) - (1 : Int64))))])) _
                refine XS.icmpNo X50.here hx rfl (hb hby at_89) rfl (teq hc53).2 ?_
                show Steps p.tables e below (T50.setTop (mkF m 92 _ [])) _
                refine XS.iconst X50.here hx rfl (hb hby at_92) ?_
                show Steps p.tables e below (T50.setTop (mkF m 93 _ [(.int (1 : Int32))])) _
                refine XS.goto X50.here hx rfl (pc0 := 93) (pc' := 97) rfl (hb hby at_93) (by decide) (by decide) ?_
                show Steps p.tables e below (T50.setTop (mkF m 97 #[.val (.long q1), .second, .val (.long q2), .second, .val (.int p3), .val (.long q1), .second, .val (.long ((q2 &&& (3 : Int64)) - (1 : Int64))), .second, .val (.ref b33), .val (.int (1 : Int32))] [(.int (1 : Int32))])) _
                exact retN X50 hx (t := .boolean) Bd.returns (by simp) (hb hby at_97) hr
              · show Q0 Z q1 q2 p3 h0 n0 _ T50.heap _
                rw [e50]
                exact ⟨congrArg (fun z => some (Value.int z)) (by rw [f0, if_pos hc5, if_neg hc7, if_neg hc37, if_neg hc43, if_pos hc49, if_pos hc53] : f0 q1 q2 p3 = (1 : Int32)).symm, N50⟩
            · skip
              obtain ⟨fs, hr, hrun, hended, hW, hsame⟩ := X50.leave (v := some (.int (0 : Int32))) (fun h => by rw [Bd.returns] at h; cases h) (by first | exact BodyLoose.notSynchronized Bd | exact Body.notSynchronized Bd)
              refine ⟨_, _, pre52 _ ?_, hrun, hended, _, _, rfl, ?_, ⟨_, rfl⟩, hW, hsame.mono (by decide) (by decide)⟩
              · show Steps p.tables e below (T50.setTop (mkF m 89 #[.val (.long q1), .second, .val (.long q2), .second, .val (.int p3), .val (.long q1), .second, .val (.long ((q2 &&& (3 : Int64)) - (1 : Int64))), .second, .val (.ref b33), .val (.int (1 : Int32))] [(.int (1 : Int32)), (.int (f4 q1 ((q2 &&& (3 : Int64)) - (1 : Int64))))])) _
                refine XS.icmpYes X50.here hx rfl (pc0 := 89) (pc' := 96) rfl (hb hby at_89) rfl (feq hc53).2 (by decide) (by decide) ?_
                show Steps p.tables e below (T50.setTop (mkF m 96 _ [])) _
                refine XS.iconst X50.here hx rfl (hb hby at_96) ?_
                show Steps p.tables e below (T50.setTop (mkF m 97 #[.val (.long q1), .second, .val (.long q2), .second, .val (.int p3), .val (.long q1), .second, .val (.long ((q2 &&& (3 : Int64)) - (1 : Int64))), .second, .val (.ref b33), .val (.int (1 : Int32))] [(.int (0 : Int32))])) _
                exact retN X50 hx (t := .boolean) Bd.returns (by simp) (hb hby at_97) hr
              · show Q0 Z q1 q2 p3 h0 n0 _ T50.heap _
                rw [e50]
                exact ⟨congrArg (fun z => some (Value.int z)) (by rw [f0, if_pos hc5, if_neg hc7, if_neg hc37, if_neg hc43, if_pos hc49, if_neg hc53] : f0 q1 q2 p3 = (0 : Int32)).symm, N50⟩
          · skip
            have Zs55 : n0 ≤ T34.heap.size := (Nat.le_trans Zs35 Kp34.1)
            obtain ⟨cq54, kq54, q54a, q54b, q54c⟩ := isOf hZ rfl qp34_0
            obtain ⟨_, _, ⟨T54, L54, k54, n54⟩, -, X54, ⟨Lc54, hQ54, l54, y54, z54⟩, st54⟩ := X34.virtualBack hx (y := (⟨"com/example/releve/releve/LinearModel$Variable", "isBoolean", "()Z"⟩ : MethodName)) (z := (⟨"com/example/releve/releve/LinearModel$Variable", "isBoolean", "()Z"⟩ : MethodName)) hown (mvT hZ (hw _ (List.mem_of_getElem? (i := 18) rfl))) (mvT hZ (hw _ (List.mem_of_getElem? (i := 19) rfl))) (notFace_of_selects (args := #[]) (mvT hZ (hw _ (List.mem_of_getElem? (i := 21) rfl)))) (mvT hZ (hw _ (List.mem_of_getElem? (i := 21) rfl))) (mvT hZ (hw _ (List.mem_of_getElem? (i := 20) rfl))) (by decide) (backOf (W := 0) (rm4 l Z a0 hw [] b33 q1 ((q2 &&& (3 : Int64)) - (1 : Int64)) T34.heap n0 Zs55 qp34_1 qp34_2) hZ (hw _ (List.mem_of_getElem? (i := 22) rfl)) (hw _ (List.mem_of_getElem? (i := 2) rfl)) (by decide) (by decide)) q54a q54c (g := (mkF m 84 #[.val (.long q1), .second, .val (.long q2), .second, .val (.int p3), .val (.long q1), .second, .val (.long ((q2 &&& (3 : Int64)) - (1 : Int64))), .second, .val (.ref b33), .val (.int (0 : Int32))] [(.ref b33)])) rfl (by rw [hml]; rfl) (Steps.refl _) (argsL := []) (rest := []) (lenOf pd_0_2 rfl) rfl (by show 2 * 0 + _ ≤ _; exact Nat.le_of_eq rfl) (hb hby at_84) (fun _ _ => ⟨rfl, rfl, (by decide : 1 + 0 ≤ _), (by decide : 2 + 0 ≤ _)⟩)
            dsimp only [Pt.U, Pt.locs, Pt.cells, Pt.slots] at X54 l54 y54 z54 st54 hQ54
            subst l54 y54 z54
            obtain ⟨rfl, N54q, e54⟩ := hQ54
            have N54 := Fr.app N34 N54q
            have pre56 : ∀ t, Steps p.tables e below (T54.setTop (mkF m 89 #[.val (.long q1), .second, .val (.long q2), .second, .val (.int p3), .val (.long q1), .second, .val (.long ((q2 &&& (3 : Int64)) - (1 : Int64))), .second, .val (.ref b33), .val (.int (0 : Int32))] [(.int (0 : Int32)), (.int (f4 q1 ((q2 &&& (3 : Int64)) - (1 : Int64))))])) t → Steps p.tables e below (s₁.setTop (entryFrame m #[(.long q1), (.long q2), (.int p3)] maxLocals)) t := fun t kt => by
              refine pre48 _ ?_
              show Steps p.tables e below (T34.setTop (mkF m 72 #[.val (.long q1), .second, .val (.long q2), .second, .val (.int p3), .val (.long q1), .second, .val (.long ((q2 &&& (3 : Int64)) - (1 : Int64))), .second, .val (.ref b33), .unset] [(.int (lcmpW q1 ((q2 &&& (3 : Int64)) - (1 : Int64))))])) _
              refine XS.ifYes X34.here hx rfl (pc0 := 72) (pc' := 79) rfl (hb hby at_72) rfl ((if0 _ _).trans (flt (mt (lw_lt _ _).mp hc49)).2.1) (by decide) (by decide) ?_
              show Steps p.tables e below (T34.setTop (mkF m 79 _ [])) _
              refine XS.iconst X34.here hx rfl (hb hby at_79) ?_
              show Steps p.tables e below (T34.setTop (mkF m 80 _ [(.int (0 : Int32))])) _
              refine XS.istore X34.here hx rfl (hb hby at_80) rfl (l' := #[.val (.long q1), .second, .val (.long q2), .second, .val (.int p3), .val (.long q1), .second, .val (.long ((q2 &&& (3 : Int64)) - (1 : Int64))), .second, .val (.ref b33), .val (.int (0 : Int32))]) rfl ?_
              show Steps p.tables e below (T34.setTop (mkF m 82 _ [])) _
              refine XS.aload X34.here hx rfl (hb hby at_82) rfl rfl ?_
              show Steps p.tables e below (T34.setTop (mkF m 84 _ [(.ref b33)])) _
              refine st54.trans ?_
              show Steps p.tables e below (T54.setTop (mkF m 87 _ [(.int (f4 q1 ((q2 &&& (3 : Int64)) - (1 : Int64))))])) _
              refine XS.iload X54.here hx rfl (hb hby at_87) rfl ?_
              exact kt
            by_cases hc57 : (f4 q1 ((q2 &&& (3 : Int64)) - (1 : Int64))) = (0 : Int32)
            · skip
              obtain ⟨fs, hr, hrun, hended, hW, hsame⟩ := X54.leave (v := some (.int (1 : Int32))) (fun h => by rw [Bd.returns] at h; cases h) (by first | exact BodyLoose.notSynchronized Bd | exact Body.notSynchronized Bd)
              refine ⟨_, _, pre56 _ ?_, hrun, hended, _, _, rfl, ?_, ⟨_, rfl⟩, hW, hsame.mono (by decide) (by decide)⟩
              · show Steps p.tables e below (T54.setTop (mkF m 89 #[.val (.long q1), .second, .val (.long q2), .second, .val (.int p3), .val (.long q1), .second, .val (.long ((q2 &&& (3 : Int64)) - (1 : Int64))), .second, .val (.ref b33), .val (.int (0 : Int32))] [(.int (0 : Int32)), (.int (f4 q1 ((q2 &&& (3 : Int64)) - (1 : Int64))))])) _
                refine XS.icmpNo X54.here hx rfl (hb hby at_89) rfl (teq hc57).2 ?_
                show Steps p.tables e below (T54.setTop (mkF m 92 _ [])) _
                refine XS.iconst X54.here hx rfl (hb hby at_92) ?_
                show Steps p.tables e below (T54.setTop (mkF m 93 _ [(.int (1 : Int32))])) _
                refine XS.goto X54.here hx rfl (pc0 := 93) (pc' := 97) rfl (hb hby at_93) (by decide) (by decide) ?_
                show Steps p.tables e below (T54.setTop (mkF m 97 #[.val (.long q1), .second, .val (.long q2), .second, .val (.int p3), .val (.long q1), .second, .val (.long ((q2 &&& (3 : Int64)) - (1 : Int64))), .second, .val (.ref b33), .val (.int (0 : Int32))] [(.int (1 : Int32))])) _
                exact retN X54 hx (t := .boolean) Bd.returns (by simp) (hb hby at_97) hr
              · show Q0 Z q1 q2 p3 h0 n0 _ T54.heap _
                rw [e54]
                exact ⟨congrArg (fun z => some (Value.int z)) (by rw [f0, if_pos hc5, if_neg hc7, if_neg hc37, if_neg hc43, if_neg hc49, if_pos hc57] : f0 q1 q2 p3 = (1 : Int32)).symm, N54⟩
            · skip
              obtain ⟨fs, hr, hrun, hended, hW, hsame⟩ := X54.leave (v := some (.int (0 : Int32))) (fun h => by rw [Bd.returns] at h; cases h) (by first | exact BodyLoose.notSynchronized Bd | exact Body.notSynchronized Bd)
              refine ⟨_, _, pre56 _ ?_, hrun, hended, _, _, rfl, ?_, ⟨_, rfl⟩, hW, hsame.mono (by decide) (by decide)⟩
              · show Steps p.tables e below (T54.setTop (mkF m 89 #[.val (.long q1), .second, .val (.long q2), .second, .val (.int p3), .val (.long q1), .second, .val (.long ((q2 &&& (3 : Int64)) - (1 : Int64))), .second, .val (.ref b33), .val (.int (0 : Int32))] [(.int (0 : Int32)), (.int (f4 q1 ((q2 &&& (3 : Int64)) - (1 : Int64))))])) _
                refine XS.icmpYes X54.here hx rfl (pc0 := 89) (pc' := 96) rfl (hb hby at_89) rfl (feq hc57).2 (by decide) (by decide) ?_
                show Steps p.tables e below (T54.setTop (mkF m 96 _ [])) _
                refine XS.iconst X54.here hx rfl (hb hby at_96) ?_
                show Steps p.tables e below (T54.setTop (mkF m 97 #[.val (.long q1), .second, .val (.long q2), .second, .val (.int p3), .val (.long q1), .second, .val (.long ((q2 &&& (3 : Int64)) - (1 : Int64))), .second, .val (.ref b33), .val (.int (0 : Int32))] [(.int (0 : Int32))])) _
                exact retN X54 hx (t := .boolean) Bd.returns (by simp) (hb hby at_97) hr
              · show Q0 Z q1 q2 p3 h0 n0 _ T54.heap _
                rw [e54]
                exact ⟨congrArg (fun z => some (Value.int z)) (by rw [f0, if_pos hc5, if_neg hc7, if_neg hc37, if_neg hc43, if_neg hc49, if_neg hc57] : f0 q1 q2 p3 = (0 : Int32)).symm, N54⟩
  · skip
    have pre58 : ∀ t, Steps p.tables e below (s₁.setTop (mkF m 24 #[.val (.long q1), .second, .val (.long q2), .second, .val (.int p3), .val (.long ((q1 &&& (3 : Int64)) - (1 : Int64))), .second, .unset, .unset, .unset, .unset] [(.int (p3 &&& (2 : Int32)))])) t → Steps p.tables e below (s₁.setTop (entryFrame m #[(.long q1), (.long q2), (.int p3)] maxLocals)) t := fun t kt => by
      refine pre4 _ ?_
      show Steps p.tables e below (s₁.setTop (mkF m 4 #[.val (.long q1), .second, .val (.long q2), .second, .val (.int p3), .unset, .unset, .unset, .unset, .unset, .unset] [(.int (p3 &&& (1 : Int32)))])) _
      refine XS.ifNo X0.here hx rfl (hb hby at_4) rfl ((if0 _ _).trans (feq hc5).1) ?_
      show Steps p.tables e below (s₁.setTop (mkF m 7 _ [])) _
      refine XS.lloadN X0.here hx rfl (hb hby at_7) rfl ?_
      show Steps p.tables e below (s₁.setTop (mkF m 8 _ [(.long q1)])) _
      refine X0.ldc2Long hx hown (mvT hZ (hw _ (List.mem_of_getElem? (i := 23) rfl))) (g := (mkF m 8 #[.val (.long q1), .second, .val (.long q2), .second, .val (.int p3), .unset, .unset, .unset, .unset, .unset, .unset] [(.long q1)])) rfl (hb hby at_8) _ ?_
      show Steps p.tables e below (s₁.setTop (mkF m 11 _ [(.long (3 : Int64)), (.long q1)])) _
      refine XS.land X0.here hx rfl (hb hby at_11) rfl ?_
      show Steps p.tables e below (s₁.setTop (mkF m 12 _ [(.long (q1 &&& (3 : Int64)))])) _
      refine XS.lconst X0.here hx rfl (hb hby at_12) ?_
      show Steps p.tables e below (s₁.setTop (mkF m 13 _ [(.long (1 : Int64)), (.long (q1 &&& (3 : Int64)))])) _
      refine XS.lsub X0.here hx rfl (hb hby at_13) rfl ?_
      show Steps p.tables e below (s₁.setTop (mkF m 14 _ [(.long ((q1 &&& (3 : Int64)) - (1 : Int64)))])) _
      refine XS.goto X0.here hx rfl (pc0 := 14) (pc' := 18) rfl (hb hby at_14) (by decide) (by decide) ?_
      show Steps p.tables e below (s₁.setTop (mkF m 18 _ [(.long ((q1 &&& (3 : Int64)) - (1 : Int64)))])) _
      refine XS.lstore X0.here hx rfl (hb hby at_18) rfl (l' := #[.val (.long q1), .second, .val (.long q2), .second, .val (.int p3), .val (.long ((q1 &&& (3 : Int64)) - (1 : Int64))), .second, .unset, .unset, .unset, .unset]) rfl ?_
      show Steps p.tables e below (s₁.setTop (mkF m 20 _ [])) _
      refine XS.iload X0.here hx rfl (hb hby at_20) rfl ?_
      show Steps p.tables e below (s₁.setTop (mkF m 22 _ [(.int p3)])) _
      refine XS.iconst X0.here hx rfl (hb hby at_22) ?_
      show Steps p.tables e below (s₁.setTop (mkF m 23 _ [(.int (2 : Int32)), (.int p3)])) _
      refine XS.iand X0.here hx rfl (hb hby at_23) rfl ?_
      exact kt
    by_cases hc59 : (p3 &&& (2 : Int32)) = (0 : Int32)
    · skip
      obtain ⟨T60, h60, X60, e60, E60, A60, D60, -, st60⟩ := newO X0 hx hZ hown (hw _ (List.mem_of_getElem? (i := 0) rfl)) (hw _ (List.mem_of_getElem? (i := 1) rfl)) (hw _ (List.mem_of_getElem? (i := 2) rfl)) e0 (g := (mkF m 40 #[.val (.long q1), .second, .val (.long q2), .second, .val (.int p3), .val (.long ((q1 &&& (3 : Int64)) - (1 : Int64))), .second, .val (.long q2), .second, .unset, .unset] [])) rfl (hb hby at_40) (by decide) (by decide)
      obtain ⟨b60, g60⟩ : ∃ z, z = h0.size := ⟨_, rfl⟩
      rw [← g60] at A60 D60 st60
      have g_b60 : n0 ≤ b60 := Nat.le_trans Z0 (Nat.le_of_eq g60.symm)
      have F_lower_b60 : Fld Z h60 b60 "com/example/releve/releve/LinearModel$Variable" "lower" "J" (.long (0 : Int64)) := D60 (Or.inr (hw _ (List.mem_of_getElem? (i := 15) rfl))) (ty := .long) (by decide)
      have F_upper_b60 : Fld Z h60 b60 "com/example/releve/releve/LinearModel$Variable" "upper" "J" (.long (0 : Int64)) := D60 (Or.inr (hw _ (List.mem_of_getElem? (i := 17) rfl))) (ty := .long) (by decide)
      have Zs62 : n0 ≤ h60.size := (Nat.le_trans Z0 E60.1)
      obtain ⟨_, _, ⟨T61, L61, k61, n61⟩, -, X61, ⟨Lc61, hQ61, l61, y61, z61⟩, st61⟩ := X60.specialBack hx (y := (⟨"com/example/releve/releve/LinearModel$Variable", "<init>", "(JJ)V"⟩ : MethodName)) rfl hown (mvT hZ (hw _ (List.mem_of_getElem? (i := 3) rfl))) (mvT hZ (hw _ (List.mem_of_getElem? (i := 4) rfl))) (mvT hZ (hw _ (List.mem_of_getElem? (i := 5) rfl))) (by decide) (backOf (W := 1) (rm1 l Z a0 hw [] b60 ((q1 &&& (3 : Int64)) - (1 : Int64)) q2 (.long (0 : Int64)) (.long (0 : Int64)) h60 n0 Zs62 A60 F_lower_b60 F_upper_b60 g_b60) hZ (hw _ (List.mem_of_getElem? (i := 5) rfl)) (hw _ (List.mem_of_getElem? (i := 2) rfl)) (by decide) (by decide)) (g := (mkF m 48 #[.val (.long q1), .second, .val (.long q2), .second, .val (.int p3), .val (.long ((q1 &&& (3 : Int64)) - (1 : Int64))), .second, .val (.long q2), .second, .unset, .unset] [(.long q2), (.long ((q1 &&& (3 : Int64)) - (1 : Int64))), (.ref b60), (.ref b60)])) rfl (by rw [hml]; rfl) (Steps.refl _) (a := b60) (argsL := [(.long ((q1 &&& (3 : Int64)) - (1 : Int64))), (.long q2)]) (rest := [(.ref b60)]) (lenOf pd_0_0 rfl) rfl (by show 2 * 0 + _ ≤ _; exact Nat.le_of_eq rfl) (hb hby at_48) (fun _ _ => ⟨rfl, e60, (by decide : 1 + 0 ≤ _), (by decide : 2 + 0 ≤ _)⟩)
      dsimp only [Pt.U, Pt.locs, Pt.cells, Pt.slots] at X61 l61 y61 z61 st61 hQ61
      subst l61 y61 z61
      obtain ⟨rfl, N61q, Kp61, qp61_0, qp61_1, qp61_2⟩ := hQ61
      have N61 := Fr.app N0 N61q
      have pre63 : ∀ t, Steps p.tables e below (T61.setTop (mkF m 57 #[.val (.long q1), .second, .val (.long q2), .second, .val (.int p3), .val (.long ((q1 &&& (3 : Int64)) - (1 : Int64))), .second, .val (.long q2), .second, .val (.ref b60), .unset] [(.int (lcmpW ((q1 &&& (3 : Int64)) - (1 : Int64)) (0 : Int64)))])) t → Steps p.tables e below (s₁.setTop (entryFrame m #[(.long q1), (.long q2), (.int p3)] maxLocals)) t := fun t kt => by
        refine pre58 _ ?_
        show Steps p.tables e below (s₁.setTop (mkF m 24 #[.val (.long q1), .second, .val (.long q2), .second, .val (.int p3), .val (.long ((q1 &&& (3 : Int64)) - (1 : Int64))), .second, .unset, .unset, .unset, .unset] [(.int (p3 &&& (2 : Int32)))])) _
        refine XS.ifYes X0.here hx rfl (pc0 := 24) (pc' := 37) rfl (hb hby at_24) rfl ((if0 _ _).trans (teq hc59).1) (by decide) (by decide) ?_
        show Steps p.tables e below (s₁.setTop (mkF m 37 _ [])) _
        refine XS.lloadN X0.here hx rfl (hb hby at_37) rfl ?_
        show Steps p.tables e below (s₁.setTop (mkF m 38 _ [(.long q2)])) _
        refine XS.lstore X0.here hx rfl (hb hby at_38) rfl (l' := #[.val (.long q1), .second, .val (.long q2), .second, .val (.int p3), .val (.long ((q1 &&& (3 : Int64)) - (1 : Int64))), .second, .val (.long q2), .second, .unset, .unset]) rfl ?_
        show Steps p.tables e below (s₁.setTop (mkF m 40 _ [])) _
        refine st60 _ ?_
        show Steps p.tables e below (T60.setTop (mkF m 43 _ [(.ref b60)])) _
        refine XS.dup X60.here hx rfl (hb hby at_43) rfl rfl ?_
        show Steps p.tables e below (T60.setTop (mkF m 44 _ [(.ref b60), (.ref b60)])) _
        refine XS.lload X60.here hx rfl (hb hby at_44) rfl ?_
        show Steps p.tables e below (T60.setTop (mkF m 46 _ [(.long ((q1 &&& (3 : Int64)) - (1 : Int64))), (.ref b60), (.ref b60)])) _
        refine XS.lload X60.here hx rfl (hb hby at_46) rfl ?_
        show Steps p.tables e below (T60.setTop (mkF m 48 _ [(.long q2), (.long ((q1 &&& (3 : Int64)) - (1 : Int64))), (.ref b60), (.ref b60)])) _
        refine st61.trans ?_
        show Steps p.tables e below (T61.setTop (mkF m 51 _ [(.ref b60)])) _
        refine XS.astore X61.here hx rfl (hb hby at_51) rfl rfl (l' := #[.val (.long q1), .second, .val (.long q2), .second, .val (.int p3), .val (.long ((q1 &&& (3 : Int64)) - (1 : Int64))), .second, .val (.long q2), .second, .val (.ref b60), .unset]) rfl ?_
        show Steps p.tables e below (T61.setTop (mkF m 53 _ [])) _
        refine XS.lload X61.here hx rfl (hb hby at_53) rfl ?_
        show Steps p.tables e below (T61.setTop (mkF m 55 _ [(.long ((q1 &&& (3 : Int64)) - (1 : Int64)))])) _
        refine XS.lconst X61.here hx rfl (hb hby at_55) ?_
        show Steps p.tables e below (T61.setTop (mkF m 56 _ [(.long (0 : Int64)), (.long ((q1 &&& (3 : Int64)) - (1 : Int64)))])) _
        refine XS.lcmp X61.here hx rfl (hb hby at_56) rfl ?_
        exact kt
      by_cases hc64 : ((q1 &&& (3 : Int64)) - (1 : Int64)) < (0 : Int64)
      · skip
        have Zs66 : n0 ≤ T61.heap.size := (Nat.le_trans Zs62 Kp61.1)
        obtain ⟨cq65, kq65, q65a, q65b, q65c⟩ := isOf hZ rfl qp61_0
        obtain ⟨_, _, ⟨T65, L65, k65, n65⟩, -, X65, ⟨Lc65, hQ65, l65, y65, z65⟩, st65⟩ := X61.virtualBack hx (y := (⟨"com/example/releve/releve/LinearModel$Variable", "isBoolean", "()Z"⟩ : MethodName)) (z := (⟨"com/example/releve/releve/LinearModel$Variable", "isBoolean", "()Z"⟩ : MethodName)) hown (mvT hZ (hw _ (List.mem_of_getElem? (i := 18) rfl))) (mvT hZ (hw _ (List.mem_of_getElem? (i := 19) rfl))) (notFace_of_selects (args := #[]) (mvT hZ (hw _ (List.mem_of_getElem? (i := 21) rfl)))) (mvT hZ (hw _ (List.mem_of_getElem? (i := 21) rfl))) (mvT hZ (hw _ (List.mem_of_getElem? (i := 20) rfl))) (by decide) (backOf (W := 0) (rm4 l Z a0 hw [] b60 ((q1 &&& (3 : Int64)) - (1 : Int64)) q2 T61.heap n0 Zs66 qp61_1 qp61_2) hZ (hw _ (List.mem_of_getElem? (i := 22) rfl)) (hw _ (List.mem_of_getElem? (i := 2) rfl)) (by decide) (by decide)) q65a q65c (g := (mkF m 84 #[.val (.long q1), .second, .val (.long q2), .second, .val (.int p3), .val (.long ((q1 &&& (3 : Int64)) - (1 : Int64))), .second, .val (.long q2), .second, .val (.ref b60), .val (.int (0 : Int32))] [(.ref b60)])) rfl (by rw [hml]; rfl) (Steps.refl _) (argsL := []) (rest := []) (lenOf pd_0_2 rfl) rfl (by show 2 * 0 + _ ≤ _; exact Nat.le_of_eq rfl) (hb hby at_84) (fun _ _ => ⟨rfl, rfl, (by decide : 1 + 0 ≤ _), (by decide : 2 + 0 ≤ _)⟩)
        dsimp only [Pt.U, Pt.locs, Pt.cells, Pt.slots] at X65 l65 y65 z65 st65 hQ65
        subst l65 y65 z65
        obtain ⟨rfl, N65q, e65⟩ := hQ65
        have N65 := Fr.app N61 N65q
        have pre67 : ∀ t, Steps p.tables e below (T65.setTop (mkF m 89 #[.val (.long q1), .second, .val (.long q2), .second, .val (.int p3), .val (.long ((q1 &&& (3 : Int64)) - (1 : Int64))), .second, .val (.long q2), .second, .val (.ref b60), .val (.int (0 : Int32))] [(.int (0 : Int32)), (.int (f4 ((q1 &&& (3 : Int64)) - (1 : Int64)) q2))])) t → Steps p.tables e below (s₁.setTop (entryFrame m #[(.long q1), (.long q2), (.int p3)] maxLocals)) t := fun t kt => by
          refine pre63 _ ?_
          show Steps p.tables e below (T61.setTop (mkF m 57 #[.val (.long q1), .second, .val (.long q2), .second, .val (.int p3), .val (.long ((q1 &&& (3 : Int64)) - (1 : Int64))), .second, .val (.long q2), .second, .val (.ref b60), .unset] [(.int (lcmpW ((q1 &&& (3 : Int64)) - (1 : Int64)) (0 : Int64)))])) _
          refine XS.ifYes X61.here hx rfl (pc0 := 57) (pc' := 79) rfl (hb hby at_57) rfl ((if0 _ _).trans (tlt ((lw_lt _ _).mpr hc64)).1) (by decide) (by decide) ?_
          show Steps p.tables e below (T61.setTop (mkF m 79 _ [])) _
          refine XS.iconst X61.here hx rfl (hb hby at_79) ?_
          show Steps p.tables e below (T61.setTop (mkF m 80 _ [(.int (0 : Int32))])) _
          refine XS.istore X61.here hx rfl (hb hby at_80) rfl (l' := #[.val (.long q1), .second, .val (.long q2), .second, .val (.int p3), .val (.long ((q1 &&& (3 : Int64)) - (1 : Int64))), .second, .val (.long q2), .second, .val (.ref b60), .val (.int (0 : Int32))]) rfl ?_
          show Steps p.tables e below (T61.setTop (mkF m 82 _ [])) _
          refine XS.aload X61.here hx rfl (hb hby at_82) rfl rfl ?_
          show Steps p.tables e below (T61.setTop (mkF m 84 _ [(.ref b60)])) _
          refine st65.trans ?_
          show Steps p.tables e below (T65.setTop (mkF m 87 _ [(.int (f4 ((q1 &&& (3 : Int64)) - (1 : Int64)) q2))])) _
          refine XS.iload X65.here hx rfl (hb hby at_87) rfl ?_
          exact kt
        by_cases hc68 : (f4 ((q1 &&& (3 : Int64)) - (1 : Int64)) q2) = (0 : Int32)
        · skip
          obtain ⟨fs, hr, hrun, hended, hW, hsame⟩ := X65.leave (v := some (.int (1 : Int32))) (fun h => by rw [Bd.returns] at h; cases h) (by first | exact BodyLoose.notSynchronized Bd | exact Body.notSynchronized Bd)
          refine ⟨_, _, pre67 _ ?_, hrun, hended, _, _, rfl, ?_, ⟨_, rfl⟩, hW, hsame.mono (by decide) (by decide)⟩
          · show Steps p.tables e below (T65.setTop (mkF m 89 #[.val (.long q1), .second, .val (.long q2), .second, .val (.int p3), .val (.long ((q1 &&& (3 : Int64)) - (1 : Int64))), .second, .val (.long q2), .second, .val (.ref b60), .val (.int (0 : Int32))] [(.int (0 : Int32)), (.int (f4 ((q1 &&& (3 : Int64)) - (1 : Int64)) q2))])) _
            refine XS.icmpNo X65.here hx rfl (hb hby at_89) rfl (teq hc68).2 ?_
            show Steps p.tables e below (T65.setTop (mkF m 92 _ [])) _
            refine XS.iconst X65.here hx rfl (hb hby at_92) ?_
            show Steps p.tables e below (T65.setTop (mkF m 93 _ [(.int (1 : Int32))])) _
            refine XS.goto X65.here hx rfl (pc0 := 93) (pc' := 97) rfl (hb hby at_93) (by decide) (by decide) ?_
            show Steps p.tables e below (T65.setTop (mkF m 97 #[.val (.long q1), .second, .val (.long q2), .second, .val (.int p3), .val (.long ((q1 &&& (3 : Int64)) - (1 : Int64))), .second, .val (.long q2), .second, .val (.ref b60), .val (.int (0 : Int32))] [(.int (1 : Int32))])) _
            exact retN X65 hx (t := .boolean) Bd.returns (by simp) (hb hby at_97) hr
          · show Q0 Z q1 q2 p3 h0 n0 _ T65.heap _
            rw [e65]
            exact ⟨congrArg (fun z => some (Value.int z)) (by rw [f0, if_neg hc5, if_pos hc59, if_pos hc64, if_pos hc68] : f0 q1 q2 p3 = (1 : Int32)).symm, N65⟩
        · skip
          obtain ⟨fs, hr, hrun, hended, hW, hsame⟩ := X65.leave (v := some (.int (0 : Int32))) (fun h => by rw [Bd.returns] at h; cases h) (by first | exact BodyLoose.notSynchronized Bd | exact Body.notSynchronized Bd)
          refine ⟨_, _, pre67 _ ?_, hrun, hended, _, _, rfl, ?_, ⟨_, rfl⟩, hW, hsame.mono (by decide) (by decide)⟩
          · show Steps p.tables e below (T65.setTop (mkF m 89 #[.val (.long q1), .second, .val (.long q2), .second, .val (.int p3), .val (.long ((q1 &&& (3 : Int64)) - (1 : Int64))), .second, .val (.long q2), .second, .val (.ref b60), .val (.int (0 : Int32))] [(.int (0 : Int32)), (.int (f4 ((q1 &&& (3 : Int64)) - (1 : Int64)) q2))])) _
            refine XS.icmpYes X65.here hx rfl (pc0 := 89) (pc' := 96) rfl (hb hby at_89) rfl (feq hc68).2 (by decide) (by decide) ?_
            show Steps p.tables e below (T65.setTop (mkF m 96 _ [])) _
            refine XS.iconst X65.here hx rfl (hb hby at_96) ?_
            show Steps p.tables e below (T65.setTop (mkF m 97 #[.val (.long q1), .second, .val (.long q2), .second, .val (.int p3), .val (.long ((q1 &&& (3 : Int64)) - (1 : Int64))), .second, .val (.long q2), .second, .val (.ref b60), .val (.int (0 : Int32))] [(.int (0 : Int32))])) _
            exact retN X65 hx (t := .boolean) Bd.returns (by simp) (hb hby at_97) hr
          · show Q0 Z q1 q2 p3 h0 n0 _ T65.heap _
            rw [e65]
            exact ⟨congrArg (fun z => some (Value.int z)) (by rw [f0, if_neg hc5, if_pos hc59, if_pos hc64, if_neg hc68] : f0 q1 q2 p3 = (0 : Int32)).symm, N65⟩
      · skip
        have pre69 : ∀ t, Steps p.tables e below (T61.setTop (mkF m 64 #[.val (.long q1), .second, .val (.long q2), .second, .val (.int p3), .val (.long ((q1 &&& (3 : Int64)) - (1 : Int64))), .second, .val (.long q2), .second, .val (.ref b60), .unset] [(.int (lcmpW q2 (1 : Int64)))])) t → Steps p.tables e below (s₁.setTop (entryFrame m #[(.long q1), (.long q2), (.int p3)] maxLocals)) t := fun t kt => by
          refine pre63 _ ?_
          show Steps p.tables e below (T61.setTop (mkF m 57 #[.val (.long q1), .second, .val (.long q2), .second, .val (.int p3), .val (.long ((q1 &&& (3 : Int64)) - (1 : Int64))), .second, .val (.long q2), .second, .val (.ref b60), .unset] [(.int (lcmpW ((q1 &&& (3 : Int64)) - (1 : Int64)) (0 : Int64)))])) _
          refine XS.ifNo X61.here hx rfl (hb hby at_57) rfl ((if0 _ _).trans (flt (mt (lw_lt _ _).mp hc64)).1) ?_
          show Steps p.tables e below (T61.setTop (mkF m 60 _ [])) _
          refine XS.lload X61.here hx rfl (hb hby at_60) rfl ?_
          show Steps p.tables e below (T61.setTop (mkF m 62 _ [(.long q2)])) _
          refine XS.lconst X61.here hx rfl (hb hby at_62) ?_
          show Steps p.tables e below (T61.setTop (mkF m 63 _ [(.long (1 : Int64)), (.long q2)])) _
          refine XS.lcmp X61.here hx rfl (hb hby at_63) rfl ?_
          exact kt
        by_cases hc70 : (1 : Int64) < q2
        · skip
          have Zs72 : n0 ≤ T61.heap.size := (Nat.le_trans Zs62 Kp61.1)
          obtain ⟨cq71, kq71, q71a, q71b, q71c⟩ := isOf hZ rfl qp61_0
          obtain ⟨_, _, ⟨T71, L71, k71, n71⟩, -, X71, ⟨Lc71, hQ71, l71, y71, z71⟩, st71⟩ := X61.virtualBack hx (y := (⟨"com/example/releve/releve/LinearModel$Variable", "isBoolean", "()Z"⟩ : MethodName)) (z := (⟨"com/example/releve/releve/LinearModel$Variable", "isBoolean", "()Z"⟩ : MethodName)) hown (mvT hZ (hw _ (List.mem_of_getElem? (i := 18) rfl))) (mvT hZ (hw _ (List.mem_of_getElem? (i := 19) rfl))) (notFace_of_selects (args := #[]) (mvT hZ (hw _ (List.mem_of_getElem? (i := 21) rfl)))) (mvT hZ (hw _ (List.mem_of_getElem? (i := 21) rfl))) (mvT hZ (hw _ (List.mem_of_getElem? (i := 20) rfl))) (by decide) (backOf (W := 0) (rm4 l Z a0 hw [] b60 ((q1 &&& (3 : Int64)) - (1 : Int64)) q2 T61.heap n0 Zs72 qp61_1 qp61_2) hZ (hw _ (List.mem_of_getElem? (i := 22) rfl)) (hw _ (List.mem_of_getElem? (i := 2) rfl)) (by decide) (by decide)) q71a q71c (g := (mkF m 84 #[.val (.long q1), .second, .val (.long q2), .second, .val (.int p3), .val (.long ((q1 &&& (3 : Int64)) - (1 : Int64))), .second, .val (.long q2), .second, .val (.ref b60), .val (.int (0 : Int32))] [(.ref b60)])) rfl (by rw [hml]; rfl) (Steps.refl _) (argsL := []) (rest := []) (lenOf pd_0_2 rfl) rfl (by show 2 * 0 + _ ≤ _; exact Nat.le_of_eq rfl) (hb hby at_84) (fun _ _ => ⟨rfl, rfl, (by decide : 1 + 0 ≤ _), (by decide : 2 + 0 ≤ _)⟩)
          dsimp only [Pt.U, Pt.locs, Pt.cells, Pt.slots] at X71 l71 y71 z71 st71 hQ71
          subst l71 y71 z71
          obtain ⟨rfl, N71q, e71⟩ := hQ71
          have N71 := Fr.app N61 N71q
          have pre73 : ∀ t, Steps p.tables e below (T71.setTop (mkF m 89 #[.val (.long q1), .second, .val (.long q2), .second, .val (.int p3), .val (.long ((q1 &&& (3 : Int64)) - (1 : Int64))), .second, .val (.long q2), .second, .val (.ref b60), .val (.int (0 : Int32))] [(.int (0 : Int32)), (.int (f4 ((q1 &&& (3 : Int64)) - (1 : Int64)) q2))])) t → Steps p.tables e below (s₁.setTop (entryFrame m #[(.long q1), (.long q2), (.int p3)] maxLocals)) t := fun t kt => by
            refine pre69 _ ?_
            show Steps p.tables e below (T61.setTop (mkF m 64 #[.val (.long q1), .second, .val (.long q2), .second, .val (.int p3), .val (.long ((q1 &&& (3 : Int64)) - (1 : Int64))), .second, .val (.long q2), .second, .val (.ref b60), .unset] [(.int (lcmpW q2 (1 : Int64)))])) _
            refine XS.ifYes X61.here hx rfl (pc0 := 64) (pc' := 79) rfl (hb hby at_64) rfl ((if0 _ _).trans (tlt ((lw_gt _ _).mpr hc70)).2.2.1) (by decide) (by decide) ?_
            show Steps p.tables e below (T61.setTop (mkF m 79 _ [])) _
            refine XS.iconst X61.here hx rfl (hb hby at_79) ?_
            show Steps p.tables e below (T61.setTop (mkF m 80 _ [(.int (0 : Int32))])) _
            refine XS.istore X61.here hx rfl (hb hby at_80) rfl (l' := #[.val (.long q1), .second, .val (.long q2), .second, .val (.int p3), .val (.long ((q1 &&& (3 : Int64)) - (1 : Int64))), .second, .val (.long q2), .second, .val (.ref b60), .val (.int (0 : Int32))]) rfl ?_
            show Steps p.tables e below (T61.setTop (mkF m 82 _ [])) _
            refine XS.aload X61.here hx rfl (hb hby at_82) rfl rfl ?_
            show Steps p.tables e below (T61.setTop (mkF m 84 _ [(.ref b60)])) _
            refine st71.trans ?_
            show Steps p.tables e below (T71.setTop (mkF m 87 _ [(.int (f4 ((q1 &&& (3 : Int64)) - (1 : Int64)) q2))])) _
            refine XS.iload X71.here hx rfl (hb hby at_87) rfl ?_
            exact kt
          by_cases hc74 : (f4 ((q1 &&& (3 : Int64)) - (1 : Int64)) q2) = (0 : Int32)
          · skip
            obtain ⟨fs, hr, hrun, hended, hW, hsame⟩ := X71.leave (v := some (.int (1 : Int32))) (fun h => by rw [Bd.returns] at h; cases h) (by first | exact BodyLoose.notSynchronized Bd | exact Body.notSynchronized Bd)
            refine ⟨_, _, pre73 _ ?_, hrun, hended, _, _, rfl, ?_, ⟨_, rfl⟩, hW, hsame.mono (by decide) (by decide)⟩
            · show Steps p.tables e below (T71.setTop (mkF m 89 #[.val (.long q1), .second, .val (.long q2), .second, .val (.int p3), .val (.long ((q1 &&& (3 : Int64)) - (1 : Int64))), .second, .val (.long q2), .second, .val (.ref b60), .val (.int (0 : Int32))] [(.int (0 : Int32)), (.int (f4 ((q1 &&& (3 : Int64)) - (1 : Int64)) q2))])) _
              refine XS.icmpNo X71.here hx rfl (hb hby at_89) rfl (teq hc74).2 ?_
              show Steps p.tables e below (T71.setTop (mkF m 92 _ [])) _
              refine XS.iconst X71.here hx rfl (hb hby at_92) ?_
              show Steps p.tables e below (T71.setTop (mkF m 93 _ [(.int (1 : Int32))])) _
              refine XS.goto X71.here hx rfl (pc0 := 93) (pc' := 97) rfl (hb hby at_93) (by decide) (by decide) ?_
              show Steps p.tables e below (T71.setTop (mkF m 97 #[.val (.long q1), .second, .val (.long q2), .second, .val (.int p3), .val (.long ((q1 &&& (3 : Int64)) - (1 : Int64))), .second, .val (.long q2), .second, .val (.ref b60), .val (.int (0 : Int32))] [(.int (1 : Int32))])) _
              exact retN X71 hx (t := .boolean) Bd.returns (by simp) (hb hby at_97) hr
            · show Q0 Z q1 q2 p3 h0 n0 _ T71.heap _
              rw [e71]
              exact ⟨congrArg (fun z => some (Value.int z)) (by rw [f0, if_neg hc5, if_pos hc59, if_neg hc64, if_pos hc70, if_pos hc74] : f0 q1 q2 p3 = (1 : Int32)).symm, N71⟩
          · skip
            obtain ⟨fs, hr, hrun, hended, hW, hsame⟩ := X71.leave (v := some (.int (0 : Int32))) (fun h => by rw [Bd.returns] at h; cases h) (by first | exact BodyLoose.notSynchronized Bd | exact Body.notSynchronized Bd)
            refine ⟨_, _, pre73 _ ?_, hrun, hended, _, _, rfl, ?_, ⟨_, rfl⟩, hW, hsame.mono (by decide) (by decide)⟩
            · show Steps p.tables e below (T71.setTop (mkF m 89 #[.val (.long q1), .second, .val (.long q2), .second, .val (.int p3), .val (.long ((q1 &&& (3 : Int64)) - (1 : Int64))), .second, .val (.long q2), .second, .val (.ref b60), .val (.int (0 : Int32))] [(.int (0 : Int32)), (.int (f4 ((q1 &&& (3 : Int64)) - (1 : Int64)) q2))])) _
              refine XS.icmpYes X71.here hx rfl (pc0 := 89) (pc' := 96) rfl (hb hby at_89) rfl (feq hc74).2 (by decide) (by decide) ?_
              show Steps p.tables e below (T71.setTop (mkF m 96 _ [])) _
              refine XS.iconst X71.here hx rfl (hb hby at_96) ?_
              show Steps p.tables e below (T71.setTop (mkF m 97 #[.val (.long q1), .second, .val (.long q2), .second, .val (.int p3), .val (.long ((q1 &&& (3 : Int64)) - (1 : Int64))), .second, .val (.long q2), .second, .val (.ref b60), .val (.int (0 : Int32))] [(.int (0 : Int32))])) _
              exact retN X71 hx (t := .boolean) Bd.returns (by simp) (hb hby at_97) hr
            · show Q0 Z q1 q2 p3 h0 n0 _ T71.heap _
              rw [e71]
              exact ⟨congrArg (fun z => some (Value.int z)) (by rw [f0, if_neg hc5, if_pos hc59, if_neg hc64, if_pos hc70, if_neg hc74] : f0 q1 q2 p3 = (0 : Int32)).symm, N71⟩
        · skip
          have pre75 : ∀ t, Steps p.tables e below (T61.setTop (mkF m 72 #[.val (.long q1), .second, .val (.long q2), .second, .val (.int p3), .val (.long ((q1 &&& (3 : Int64)) - (1 : Int64))), .second, .val (.long q2), .second, .val (.ref b60), .unset] [(.int (lcmpW ((q1 &&& (3 : Int64)) - (1 : Int64)) q2))])) t → Steps p.tables e below (s₁.setTop (entryFrame m #[(.long q1), (.long q2), (.int p3)] maxLocals)) t := fun t kt => by
            refine pre69 _ ?_
            show Steps p.tables e below (T61.setTop (mkF m 64 #[.val (.long q1), .second, .val (.long q2), .second, .val (.int p3), .val (.long ((q1 &&& (3 : Int64)) - (1 : Int64))), .second, .val (.long q2), .second, .val (.ref b60), .unset] [(.int (lcmpW q2 (1 : Int64)))])) _
            refine XS.ifNo X61.here hx rfl (hb hby at_64) rfl ((if0 _ _).trans (flt (mt (lw_gt _ _).mp hc70)).2.2.1) ?_
            show Steps p.tables e below (T61.setTop (mkF m 67 _ [])) _
            refine XS.lload X61.here hx rfl (hb hby at_67) rfl ?_
            show Steps p.tables e below (T61.setTop (mkF m 69 _ [(.long ((q1 &&& (3 : Int64)) - (1 : Int64)))])) _
            refine XS.lload X61.here hx rfl (hb hby at_69) rfl ?_
            show Steps p.tables e below (T61.setTop (mkF m 71 _ [(.long q2), (.long ((q1 &&& (3 : Int64)) - (1 : Int64)))])) _
            refine XS.lcmp X61.here hx rfl (hb hby at_71) rfl ?_
            exact kt
          by_cases hc76 : ((q1 &&& (3 : Int64)) - (1 : Int64)) < q2
          · skip
            have Zs78 : n0 ≤ T61.heap.size := (Nat.le_trans Zs62 Kp61.1)
            obtain ⟨cq77, kq77, q77a, q77b, q77c⟩ := isOf hZ rfl qp61_0
            obtain ⟨_, _, ⟨T77, L77, k77, n77⟩, -, X77, ⟨Lc77, hQ77, l77, y77, z77⟩, st77⟩ := X61.virtualBack hx (y := (⟨"com/example/releve/releve/LinearModel$Variable", "isBoolean", "()Z"⟩ : MethodName)) (z := (⟨"com/example/releve/releve/LinearModel$Variable", "isBoolean", "()Z"⟩ : MethodName)) hown (mvT hZ (hw _ (List.mem_of_getElem? (i := 18) rfl))) (mvT hZ (hw _ (List.mem_of_getElem? (i := 19) rfl))) (notFace_of_selects (args := #[]) (mvT hZ (hw _ (List.mem_of_getElem? (i := 21) rfl)))) (mvT hZ (hw _ (List.mem_of_getElem? (i := 21) rfl))) (mvT hZ (hw _ (List.mem_of_getElem? (i := 20) rfl))) (by decide) (backOf (W := 0) (rm4 l Z a0 hw [] b60 ((q1 &&& (3 : Int64)) - (1 : Int64)) q2 T61.heap n0 Zs78 qp61_1 qp61_2) hZ (hw _ (List.mem_of_getElem? (i := 22) rfl)) (hw _ (List.mem_of_getElem? (i := 2) rfl)) (by decide) (by decide)) q77a q77c (g := (mkF m 84 #[.val (.long q1), .second, .val (.long q2), .second, .val (.int p3), .val (.long ((q1 &&& (3 : Int64)) - (1 : Int64))), .second, .val (.long q2), .second, .val (.ref b60), .val (.int (1 : Int32))] [(.ref b60)])) rfl (by rw [hml]; rfl) (Steps.refl _) (argsL := []) (rest := []) (lenOf pd_0_2 rfl) rfl (by show 2 * 0 + _ ≤ _; exact Nat.le_of_eq rfl) (hb hby at_84) (fun _ _ => ⟨rfl, rfl, (by decide : 1 + 0 ≤ _), (by decide : 2 + 0 ≤ _)⟩)
            dsimp only [Pt.U, Pt.locs, Pt.cells, Pt.slots] at X77 l77 y77 z77 st77 hQ77
            subst l77 y77 z77
            obtain ⟨rfl, N77q, e77⟩ := hQ77
            have N77 := Fr.app N61 N77q
            have pre79 : ∀ t, Steps p.tables e below (T77.setTop (mkF m 89 #[.val (.long q1), .second, .val (.long q2), .second, .val (.int p3), .val (.long ((q1 &&& (3 : Int64)) - (1 : Int64))), .second, .val (.long q2), .second, .val (.ref b60), .val (.int (1 : Int32))] [(.int (1 : Int32)), (.int (f4 ((q1 &&& (3 : Int64)) - (1 : Int64)) q2))])) t → Steps p.tables e below (s₁.setTop (entryFrame m #[(.long q1), (.long q2), (.int p3)] maxLocals)) t := fun t kt => by
              refine pre75 _ ?_
              show Steps p.tables e below (T61.setTop (mkF m 72 #[.val (.long q1), .second, .val (.long q2), .second, .val (.int p3), .val (.long ((q1 &&& (3 : Int64)) - (1 : Int64))), .second, .val (.long q2), .second, .val (.ref b60), .unset] [(.int (lcmpW ((q1 &&& (3 : Int64)) - (1 : Int64)) q2))])) _
              refine XS.ifNo X61.here hx rfl (hb hby at_72) rfl ((if0 _ _).trans (tlt ((lw_lt _ _).mpr hc76)).2.1) ?_
              show Steps p.tables e below (T61.setTop (mkF m 75 _ [])) _
              refine XS.iconst X61.here hx rfl (hb hby at_75) ?_
              show Steps p.tables e below (T61.setTop (mkF m 76 _ [(.int (1 : Int32))])) _
              refine XS.goto X61.here hx rfl (pc0 := 76) (pc' := 80) rfl (hb hby at_76) (by decide) (by decide) ?_
              show Steps p.tables e below (T61.setTop (mkF m 80 _ [(.int (1 : Int32))])) _
              refine XS.istore X61.here hx rfl (hb hby at_80) rfl (l' := #[.val (.long q1), .second, .val (.long q2), .second, .val (.int p3), .val (.long ((q1 &&& (3 : Int64)) - (1 : Int64))), .second, .val (.long q2), .second, .val (.ref b60), .val (.int (1 : Int32))]) rfl ?_
              show Steps p.tables e below (T61.setTop (mkF m 82 _ [])) _
              refine XS.aload X61.here hx rfl (hb hby at_82) rfl rfl ?_
              show Steps p.tables e below (T61.setTop (mkF m 84 _ [(.ref b60)])) _
              refine st77.trans ?_
              show Steps p.tables e below (T77.setTop (mkF m 87 _ [(.int (f4 ((q1 &&& (3 : Int64)) - (1 : Int64)) q2))])) _
              refine XS.iload X77.here hx rfl (hb hby at_87) rfl ?_
              exact kt
            by_cases hc80 : (f4 ((q1 &&& (3 : Int64)) - (1 : Int64)) q2) = (1 : Int32)
            · skip
              obtain ⟨fs, hr, hrun, hended, hW, hsame⟩ := X77.leave (v := some (.int (1 : Int32))) (fun h => by rw [Bd.returns] at h; cases h) (by first | exact BodyLoose.notSynchronized Bd | exact Body.notSynchronized Bd)
              refine ⟨_, _, pre79 _ ?_, hrun, hended, _, _, rfl, ?_, ⟨_, rfl⟩, hW, hsame.mono (by decide) (by decide)⟩
              · show Steps p.tables e below (T77.setTop (mkF m 89 #[.val (.long q1), .second, .val (.long q2), .second, .val (.int p3), .val (.long ((q1 &&& (3 : Int64)) - (1 : Int64))), .second, .val (.long q2), .second, .val (.ref b60), .val (.int (1 : Int32))] [(.int (1 : Int32)), (.int (f4 ((q1 &&& (3 : Int64)) - (1 : Int64)) q2))])) _
                refine XS.icmpNo X77.here hx rfl (hb hby at_89) rfl (teq hc80).2 ?_
                show Steps p.tables e below (T77.setTop (mkF m 92 _ [])) _
                refine XS.iconst X77.here hx rfl (hb hby at_92) ?_
                show Steps p.tables e below (T77.setTop (mkF m 93 _ [(.int (1 : Int32))])) _
                refine XS.goto X77.here hx rfl (pc0 := 93) (pc' := 97) rfl (hb hby at_93) (by decide) (by decide) ?_
                show Steps p.tables e below (T77.setTop (mkF m 97 #[.val (.long q1), .second, .val (.long q2), .second, .val (.int p3), .val (.long ((q1 &&& (3 : Int64)) - (1 : Int64))), .second, .val (.long q2), .second, .val (.ref b60), .val (.int (1 : Int32))] [(.int (1 : Int32))])) _
                exact retN X77 hx (t := .boolean) Bd.returns (by simp) (hb hby at_97) hr
              · show Q0 Z q1 q2 p3 h0 n0 _ T77.heap _
                rw [e77]
                exact ⟨congrArg (fun z => some (Value.int z)) (by rw [f0, if_neg hc5, if_pos hc59, if_neg hc64, if_neg hc70, if_pos hc76, if_pos hc80] : f0 q1 q2 p3 = (1 : Int32)).symm, N77⟩
            · skip
              obtain ⟨fs, hr, hrun, hended, hW, hsame⟩ := X77.leave (v := some (.int (0 : Int32))) (fun h => by rw [Bd.returns] at h; cases h) (by first | exact BodyLoose.notSynchronized Bd | exact Body.notSynchronized Bd)
              refine ⟨_, _, pre79 _ ?_, hrun, hended, _, _, rfl, ?_, ⟨_, rfl⟩, hW, hsame.mono (by decide) (by decide)⟩
              · show Steps p.tables e below (T77.setTop (mkF m 89 #[.val (.long q1), .second, .val (.long q2), .second, .val (.int p3), .val (.long ((q1 &&& (3 : Int64)) - (1 : Int64))), .second, .val (.long q2), .second, .val (.ref b60), .val (.int (1 : Int32))] [(.int (1 : Int32)), (.int (f4 ((q1 &&& (3 : Int64)) - (1 : Int64)) q2))])) _
                refine XS.icmpYes X77.here hx rfl (pc0 := 89) (pc' := 96) rfl (hb hby at_89) rfl (feq hc80).2 (by decide) (by decide) ?_
                show Steps p.tables e below (T77.setTop (mkF m 96 _ [])) _
                refine XS.iconst X77.here hx rfl (hb hby at_96) ?_
                show Steps p.tables e below (T77.setTop (mkF m 97 #[.val (.long q1), .second, .val (.long q2), .second, .val (.int p3), .val (.long ((q1 &&& (3 : Int64)) - (1 : Int64))), .second, .val (.long q2), .second, .val (.ref b60), .val (.int (1 : Int32))] [(.int (0 : Int32))])) _
                exact retN X77 hx (t := .boolean) Bd.returns (by simp) (hb hby at_97) hr
              · show Q0 Z q1 q2 p3 h0 n0 _ T77.heap _
                rw [e77]
                exact ⟨congrArg (fun z => some (Value.int z)) (by rw [f0, if_neg hc5, if_pos hc59, if_neg hc64, if_neg hc70, if_pos hc76, if_neg hc80] : f0 q1 q2 p3 = (0 : Int32)).symm, N77⟩
          · skip
            have Zs82 : n0 ≤ T61.heap.size := (Nat.le_trans Zs62 Kp61.1)
            obtain ⟨cq81, kq81, q81a, q81b, q81c⟩ := isOf hZ rfl qp61_0
            obtain ⟨_, _, ⟨T81, L81, k81, n81⟩, -, X81, ⟨Lc81, hQ81, l81, y81, z81⟩, st81⟩ := X61.virtualBack hx (y := (⟨"com/example/releve/releve/LinearModel$Variable", "isBoolean", "()Z"⟩ : MethodName)) (z := (⟨"com/example/releve/releve/LinearModel$Variable", "isBoolean", "()Z"⟩ : MethodName)) hown (mvT hZ (hw _ (List.mem_of_getElem? (i := 18) rfl))) (mvT hZ (hw _ (List.mem_of_getElem? (i := 19) rfl))) (notFace_of_selects (args := #[]) (mvT hZ (hw _ (List.mem_of_getElem? (i := 21) rfl)))) (mvT hZ (hw _ (List.mem_of_getElem? (i := 21) rfl))) (mvT hZ (hw _ (List.mem_of_getElem? (i := 20) rfl))) (by decide) (backOf (W := 0) (rm4 l Z a0 hw [] b60 ((q1 &&& (3 : Int64)) - (1 : Int64)) q2 T61.heap n0 Zs82 qp61_1 qp61_2) hZ (hw _ (List.mem_of_getElem? (i := 22) rfl)) (hw _ (List.mem_of_getElem? (i := 2) rfl)) (by decide) (by decide)) q81a q81c (g := (mkF m 84 #[.val (.long q1), .second, .val (.long q2), .second, .val (.int p3), .val (.long ((q1 &&& (3 : Int64)) - (1 : Int64))), .second, .val (.long q2), .second, .val (.ref b60), .val (.int (0 : Int32))] [(.ref b60)])) rfl (by rw [hml]; rfl) (Steps.refl _) (argsL := []) (rest := []) (lenOf pd_0_2 rfl) rfl (by show 2 * 0 + _ ≤ _; exact Nat.le_of_eq rfl) (hb hby at_84) (fun _ _ => ⟨rfl, rfl, (by decide : 1 + 0 ≤ _), (by decide : 2 + 0 ≤ _)⟩)
            dsimp only [Pt.U, Pt.locs, Pt.cells, Pt.slots] at X81 l81 y81 z81 st81 hQ81
            subst l81 y81 z81
            obtain ⟨rfl, N81q, e81⟩ := hQ81
            have N81 := Fr.app N61 N81q
            have pre83 : ∀ t, Steps p.tables e below (T81.setTop (mkF m 89 #[.val (.long q1), .second, .val (.long q2), .second, .val (.int p3), .val (.long ((q1 &&& (3 : Int64)) - (1 : Int64))), .second, .val (.long q2), .second, .val (.ref b60), .val (.int (0 : Int32))] [(.int (0 : Int32)), (.int (f4 ((q1 &&& (3 : Int64)) - (1 : Int64)) q2))])) t → Steps p.tables e below (s₁.setTop (entryFrame m #[(.long q1), (.long q2), (.int p3)] maxLocals)) t := fun t kt => by
              refine pre75 _ ?_
              show Steps p.tables e below (T61.setTop (mkF m 72 #[.val (.long q1), .second, .val (.long q2), .second, .val (.int p3), .val (.long ((q1 &&& (3 : Int64)) - (1 : Int64))), .second, .val (.long q2), .second, .val (.ref b60), .unset] [(.int (lcmpW ((q1 &&& (3 : Int64)) - (1 : Int64)) q2))])) _
              refine XS.ifYes X61.here hx rfl (pc0 := 72) (pc' := 79) rfl (hb hby at_72) rfl ((if0 _ _).trans (flt (mt (lw_lt _ _).mp hc76)).2.1) (by decide) (by decide) ?_
              show Steps p.tables e below (T61.setTop (mkF m 79 _ [])) _
              refine XS.iconst X61.here hx rfl (hb hby at_79) ?_
              show Steps p.tables e below (T61.setTop (mkF m 80 _ [(.int (0 : Int32))])) _
              refine XS.istore X61.here hx rfl (hb hby at_80) rfl (l' := #[.val (.long q1), .second, .val (.long q2), .second, .val (.int p3), .val (.long ((q1 &&& (3 : Int64)) - (1 : Int64))), .second, .val (.long q2), .second, .val (.ref b60), .val (.int (0 : Int32))]) rfl ?_
              show Steps p.tables e below (T61.setTop (mkF m 82 _ [])) _
              refine XS.aload X61.here hx rfl (hb hby at_82) rfl rfl ?_
              show Steps p.tables e below (T61.setTop (mkF m 84 _ [(.ref b60)])) _
              refine st81.trans ?_
              show Steps p.tables e below (T81.setTop (mkF m 87 _ [(.int (f4 ((q1 &&& (3 : Int64)) - (1 : Int64)) q2))])) _
              refine XS.iload X81.here hx rfl (hb hby at_87) rfl ?_
              exact kt
            by_cases hc84 : (f4 ((q1 &&& (3 : Int64)) - (1 : Int64)) q2) = (0 : Int32)
            · skip
              obtain ⟨fs, hr, hrun, hended, hW, hsame⟩ := X81.leave (v := some (.int (1 : Int32))) (fun h => by rw [Bd.returns] at h; cases h) (by first | exact BodyLoose.notSynchronized Bd | exact Body.notSynchronized Bd)
              refine ⟨_, _, pre83 _ ?_, hrun, hended, _, _, rfl, ?_, ⟨_, rfl⟩, hW, hsame.mono (by decide) (by decide)⟩
              · show Steps p.tables e below (T81.setTop (mkF m 89 #[.val (.long q1), .second, .val (.long q2), .second, .val (.int p3), .val (.long ((q1 &&& (3 : Int64)) - (1 : Int64))), .second, .val (.long q2), .second, .val (.ref b60), .val (.int (0 : Int32))] [(.int (0 : Int32)), (.int (f4 ((q1 &&& (3 : Int64)) - (1 : Int64)) q2))])) _
                refine XS.icmpNo X81.here hx rfl (hb hby at_89) rfl (teq hc84).2 ?_
                show Steps p.tables e below (T81.setTop (mkF m 92 _ [])) _
                refine XS.iconst X81.here hx rfl (hb hby at_92) ?_
                show Steps p.tables e below (T81.setTop (mkF m 93 _ [(.int (1 : Int32))])) _
                refine XS.goto X81.here hx rfl (pc0 := 93) (pc' := 97) rfl (hb hby at_93) (by decide) (by decide) ?_
                show Steps p.tables e below (T81.setTop (mkF m 97 #[.val (.long q1), .second, .val (.long q2), .second, .val (.int p3), .val (.long ((q1 &&& (3 : Int64)) - (1 : Int64))), .second, .val (.long q2), .second, .val (.ref b60), .val (.int (0 : Int32))] [(.int (1 : Int32))])) _
                exact retN X81 hx (t := .boolean) Bd.returns (by simp) (hb hby at_97) hr
              · show Q0 Z q1 q2 p3 h0 n0 _ T81.heap _
                rw [e81]
                exact ⟨congrArg (fun z => some (Value.int z)) (by rw [f0, if_neg hc5, if_pos hc59, if_neg hc64, if_neg hc70, if_neg hc76, if_pos hc84] : f0 q1 q2 p3 = (1 : Int32)).symm, N81⟩
            · skip
              obtain ⟨fs, hr, hrun, hended, hW, hsame⟩ := X81.leave (v := some (.int (0 : Int32))) (fun h => by rw [Bd.returns] at h; cases h) (by first | exact BodyLoose.notSynchronized Bd | exact Body.notSynchronized Bd)
              refine ⟨_, _, pre83 _ ?_, hrun, hended, _, _, rfl, ?_, ⟨_, rfl⟩, hW, hsame.mono (by decide) (by decide)⟩
              · show Steps p.tables e below (T81.setTop (mkF m 89 #[.val (.long q1), .second, .val (.long q2), .second, .val (.int p3), .val (.long ((q1 &&& (3 : Int64)) - (1 : Int64))), .second, .val (.long q2), .second, .val (.ref b60), .val (.int (0 : Int32))] [(.int (0 : Int32)), (.int (f4 ((q1 &&& (3 : Int64)) - (1 : Int64)) q2))])) _
                refine XS.icmpYes X81.here hx rfl (pc0 := 89) (pc' := 96) rfl (hb hby at_89) rfl (feq hc84).2 (by decide) (by decide) ?_
                show Steps p.tables e below (T81.setTop (mkF m 96 _ [])) _
                refine XS.iconst X81.here hx rfl (hb hby at_96) ?_
                show Steps p.tables e below (T81.setTop (mkF m 97 #[.val (.long q1), .second, .val (.long q2), .second, .val (.int p3), .val (.long ((q1 &&& (3 : Int64)) - (1 : Int64))), .second, .val (.long q2), .second, .val (.ref b60), .val (.int (0 : Int32))] [(.int (0 : Int32))])) _
                exact retN X81 hx (t := .boolean) Bd.returns (by simp) (hb hby at_97) hr
              · show Q0 Z q1 q2 p3 h0 n0 _ T81.heap _
                rw [e81]
                exact ⟨congrArg (fun z => some (Value.int z)) (by rw [f0, if_neg hc5, if_pos hc59, if_neg hc64, if_neg hc70, if_neg hc76, if_neg hc84] : f0 q1 q2 p3 = (0 : Int32)).symm, N81⟩
    · skip
      obtain ⟨T85, h85, X85, e85, E85, A85, D85, -, st85⟩ := newO X0 hx hZ hown (hw _ (List.mem_of_getElem? (i := 0) rfl)) (hw _ (List.mem_of_getElem? (i := 1) rfl)) (hw _ (List.mem_of_getElem? (i := 2) rfl)) e0 (g := (mkF m 40 #[.val (.long q1), .second, .val (.long q2), .second, .val (.int p3), .val (.long ((q1 &&& (3 : Int64)) - (1 : Int64))), .second, .val (.long ((q2 &&& (3 : Int64)) - (1 : Int64))), .second, .unset, .unset] [])) rfl (hb hby at_40) (by decide) (by decide)
      obtain ⟨b85, g85⟩ : ∃ z, z = h0.size := ⟨_, rfl⟩
      rw [← g85] at A85 D85 st85
      have g_b85 : n0 ≤ b85 := Nat.le_trans Z0 (Nat.le_of_eq g85.symm)
      have F_lower_b85 : Fld Z h85 b85 "com/example/releve/releve/LinearModel$Variable" "lower" "J" (.long (0 : Int64)) := D85 (Or.inr (hw _ (List.mem_of_getElem? (i := 15) rfl))) (ty := .long) (by decide)
      have F_upper_b85 : Fld Z h85 b85 "com/example/releve/releve/LinearModel$Variable" "upper" "J" (.long (0 : Int64)) := D85 (Or.inr (hw _ (List.mem_of_getElem? (i := 17) rfl))) (ty := .long) (by decide)
      have Zs87 : n0 ≤ h85.size := (Nat.le_trans Z0 E85.1)
      obtain ⟨_, _, ⟨T86, L86, k86, n86⟩, -, X86, ⟨Lc86, hQ86, l86, y86, z86⟩, st86⟩ := X85.specialBack hx (y := (⟨"com/example/releve/releve/LinearModel$Variable", "<init>", "(JJ)V"⟩ : MethodName)) rfl hown (mvT hZ (hw _ (List.mem_of_getElem? (i := 3) rfl))) (mvT hZ (hw _ (List.mem_of_getElem? (i := 4) rfl))) (mvT hZ (hw _ (List.mem_of_getElem? (i := 5) rfl))) (by decide) (backOf (W := 1) (rm1 l Z a0 hw [] b85 ((q1 &&& (3 : Int64)) - (1 : Int64)) ((q2 &&& (3 : Int64)) - (1 : Int64)) (.long (0 : Int64)) (.long (0 : Int64)) h85 n0 Zs87 A85 F_lower_b85 F_upper_b85 g_b85) hZ (hw _ (List.mem_of_getElem? (i := 5) rfl)) (hw _ (List.mem_of_getElem? (i := 2) rfl)) (by decide) (by decide)) (g := (mkF m 48 #[.val (.long q1), .second, .val (.long q2), .second, .val (.int p3), .val (.long ((q1 &&& (3 : Int64)) - (1 : Int64))), .second, .val (.long ((q2 &&& (3 : Int64)) - (1 : Int64))), .second, .unset, .unset] [(.long ((q2 &&& (3 : Int64)) - (1 : Int64))), (.long ((q1 &&& (3 : Int64)) - (1 : Int64))), (.ref b85), (.ref b85)])) rfl (by rw [hml]; rfl) (Steps.refl _) (a := b85) (argsL := [(.long ((q1 &&& (3 : Int64)) - (1 : Int64))), (.long ((q2 &&& (3 : Int64)) - (1 : Int64)))]) (rest := [(.ref b85)]) (lenOf pd_0_0 rfl) rfl (by show 2 * 0 + _ ≤ _; exact Nat.le_of_eq rfl) (hb hby at_48) (fun _ _ => ⟨rfl, e85, (by decide : 1 + 0 ≤ _), (by decide : 2 + 0 ≤ _)⟩)
      dsimp only [Pt.U, Pt.locs, Pt.cells, Pt.slots] at X86 l86 y86 z86 st86 hQ86
      subst l86 y86 z86
      obtain ⟨rfl, N86q, Kp86, qp86_0, qp86_1, qp86_2⟩ := hQ86
      have N86 := Fr.app N0 N86q
      have pre88 : ∀ t, Steps p.tables e below (T86.setTop (mkF m 57 #[.val (.long q1), .second, .val (.long q2), .second, .val (.int p3), .val (.long ((q1 &&& (3 : Int64)) - (1 : Int64))), .second, .val (.long ((q2 &&& (3 : Int64)) - (1 : Int64))), .second, .val (.ref b85), .unset] [(.int (lcmpW ((q1 &&& (3 : Int64)) - (1 : Int64)) (0 : Int64)))])) t → Steps p.tables e below (s₁.setTop (entryFrame m #[(.long q1), (.long q2), (.int p3)] maxLocals)) t := fun t kt => by
        refine pre58 _ ?_
        show Steps p.tables e below (s₁.setTop (mkF m 24 #[.val (.long q1), .second, .val (.long q2), .second, .val (.int p3), .val (.long ((q1 &&& (3 : Int64)) - (1 : Int64))), .second, .unset, .unset, .unset, .unset] [(.int (p3 &&& (2 : Int32)))])) _
        refine XS.ifNo X0.here hx rfl (hb hby at_24) rfl ((if0 _ _).trans (feq hc59).1) ?_
        show Steps p.tables e below (s₁.setTop (mkF m 27 _ [])) _
        refine XS.lloadN X0.here hx rfl (hb hby at_27) rfl ?_
        show Steps p.tables e below (s₁.setTop (mkF m 28 _ [(.long q2)])) _
        refine X0.ldc2Long hx hown (mvT hZ (hw _ (List.mem_of_getElem? (i := 23) rfl))) (g := (mkF m 28 #[.val (.long q1), .second, .val (.long q2), .second, .val (.int p3), .val (.long ((q1 &&& (3 : Int64)) - (1 : Int64))), .second, .unset, .unset, .unset, .unset] [(.long q2)])) rfl (hb hby at_28) _ ?_
        show Steps p.tables e below (s₁.setTop (mkF m 31 _ [(.long (3 : Int64)), (.long q2)])) _
        refine XS.land X0.here hx rfl (hb hby at_31) rfl ?_
        show Steps p.tables e below (s₁.setTop (mkF m 32 _ [(.long (q2 &&& (3 : Int64)))])) _
        refine XS.lconst X0.here hx rfl (hb hby at_32) ?_
        show Steps p.tables e below (s₁.setTop (mkF m 33 _ [(.long (1 : Int64)), (.long (q2 &&& (3 : Int64)))])) _
        refine XS.lsub X0.here hx rfl (hb hby at_33) rfl ?_
        show Steps p.tables e below (s₁.setTop (mkF m 34 _ [(.long ((q2 &&& (3 : Int64)) - (1 : Int64)))])) _
        refine XS.goto X0.here hx rfl (pc0 := 34) (pc' := 38) rfl (hb hby at_34) (by decide) (by decide) ?_
        show Steps p.tables e below (s₁.setTop (mkF m 38 _ [(.long ((q2 &&& (3 : Int64)) - (1 : Int64)))])) _
        refine XS.lstore X0.here hx rfl (hb hby at_38) rfl (l' := #[.val (.long q1), .second, .val (.long q2), .second, .val (.int p3), .val (.long ((q1 &&& (3 : Int64)) - (1 : Int64))), .second, .val (.long ((q2 &&& (3 : Int64)) - (1 : Int64))), .second, .unset, .unset]) rfl ?_
        show Steps p.tables e below (s₁.setTop (mkF m 40 _ [])) _
        refine st85 _ ?_
        show Steps p.tables e below (T85.setTop (mkF m 43 _ [(.ref b85)])) _
        refine XS.dup X85.here hx rfl (hb hby at_43) rfl rfl ?_
        show Steps p.tables e below (T85.setTop (mkF m 44 _ [(.ref b85), (.ref b85)])) _
        refine XS.lload X85.here hx rfl (hb hby at_44) rfl ?_
        show Steps p.tables e below (T85.setTop (mkF m 46 _ [(.long ((q1 &&& (3 : Int64)) - (1 : Int64))), (.ref b85), (.ref b85)])) _
        refine XS.lload X85.here hx rfl (hb hby at_46) rfl ?_
        show Steps p.tables e below (T85.setTop (mkF m 48 _ [(.long ((q2 &&& (3 : Int64)) - (1 : Int64))), (.long ((q1 &&& (3 : Int64)) - (1 : Int64))), (.ref b85), (.ref b85)])) _
        refine st86.trans ?_
        show Steps p.tables e below (T86.setTop (mkF m 51 _ [(.ref b85)])) _
        refine XS.astore X86.here hx rfl (hb hby at_51) rfl rfl (l' := #[.val (.long q1), .second, .val (.long q2), .second, .val (.int p3), .val (.long ((q1 &&& (3 : Int64)) - (1 : Int64))), .second, .val (.long ((q2 &&& (3 : Int64)) - (1 : Int64))), .second, .val (.ref b85), .unset]) rfl ?_
        show Steps p.tables e below (T86.setTop (mkF m 53 _ [])) _
        refine XS.lload X86.here hx rfl (hb hby at_53) rfl ?_
        show Steps p.tables e below (T86.setTop (mkF m 55 _ [(.long ((q1 &&& (3 : Int64)) - (1 : Int64)))])) _
        refine XS.lconst X86.here hx rfl (hb hby at_55) ?_
        show Steps p.tables e below (T86.setTop (mkF m 56 _ [(.long (0 : Int64)), (.long ((q1 &&& (3 : Int64)) - (1 : Int64)))])) _
        refine XS.lcmp X86.here hx rfl (hb hby at_56) rfl ?_
        exact kt
      by_cases hc89 : ((q1 &&& (3 : Int64)) - (1 : Int64)) < (0 : Int64)
      · skip
        have Zs91 : n0 ≤ T86.heap.size := (Nat.le_trans Zs87 Kp86.1)
        obtain ⟨cq90, kq90, q90a, q90b, q90c⟩ := isOf hZ rfl qp86_0
        obtain ⟨_, _, ⟨T90, L90, k90, n90⟩, -, X90, ⟨Lc90, hQ90, l90, y90, z90⟩, st90⟩ := X86.virtualBack hx (y := (⟨"com/example/releve/releve/LinearModel$Variable", "isBoolean", "()Z"⟩ : MethodName)) (z := (⟨"com/example/releve/releve/LinearModel$Variable", "isBoolean", "()Z"⟩ : MethodName)) hown (mvT hZ (hw _ (List.mem_of_getElem? (i := 18) rfl))) (mvT hZ (hw _ (List.mem_of_getElem? (i := 19) rfl))) (notFace_of_selects (args := #[]) (mvT hZ (hw _ (List.mem_of_getElem? (i := 21) rfl)))) (mvT hZ (hw _ (List.mem_of_getElem? (i := 21) rfl))) (mvT hZ (hw _ (List.mem_of_getElem? (i := 20) rfl))) (by decide) (backOf (W := 0) (rm4 l Z a0 hw [] b85 ((q1 &&& (3 : Int64)) - (1 : Int64)) ((q2 &&& (3 : Int64)) - (1 : Int64)) T86.heap n0 Zs91 qp86_1 qp86_2) hZ (hw _ (List.mem_of_getElem? (i := 22) rfl)) (hw _ (List.mem_of_getElem? (i := 2) rfl)) (by decide) (by decide)) q90a q90c (g := (mkF m 84 #[.val (.long q1), .second, .val (.long q2), .second, .val (.int p3), .val (.long ((q1 &&& (3 : Int64)) - (1 : Int64))), .second, .val (.long ((q2 &&& (3 : Int64)) - (1 : Int64))), .second, .val (.ref b85), .val (.int (0 : Int32))] [(.ref b85)])) rfl (by rw [hml]; rfl) (Steps.refl _) (argsL := []) (rest := []) (lenOf pd_0_2 rfl) rfl (by show 2 * 0 + _ ≤ _; exact Nat.le_of_eq rfl) (hb hby at_84) (fun _ _ => ⟨rfl, rfl, (by decide : 1 + 0 ≤ _), (by decide : 2 + 0 ≤ _)⟩)
        dsimp only [Pt.U, Pt.locs, Pt.cells, Pt.slots] at X90 l90 y90 z90 st90 hQ90
        subst l90 y90 z90
        obtain ⟨rfl, N90q, e90⟩ := hQ90
        have N90 := Fr.app N86 N90q
        have pre92 : ∀ t, Steps p.tables e below (T90.setTop (mkF m 89 #[.val (.long q1), .second, .val (.long q2), .second, .val (.int p3), .val (.long ((q1 &&& (3 : Int64)) - (1 : Int64))), .second, .val (.long ((q2 &&& (3 : Int64)) - (1 : Int64))), .second, .val (.ref b85), .val (.int (0 : Int32))] [(.int (0 : Int32)), (.int (f4 ((q1 &&& (3 : Int64)) - (1 : Int64)) ((q2 &&& (3 : Int64)) - (1 : Int64))))])) t → Steps p.tables e below (s₁.setTop (entryFrame m #[(.long q1), (.long q2), (.int p3)] maxLocals)) t := fun t kt => by
          refine pre88 _ ?_
          show Steps p.tables e below (T86.setTop (mkF m 57 #[.val (.long q1), .second, .val (.long q2), .second, .val (.int p3), .val (.long ((q1 &&& (3 : Int64)) - (1 : Int64))), .second, .val (.long ((q2 &&& (3 : Int64)) - (1 : Int64))), .second, .val (.ref b85), .unset] [(.int (lcmpW ((q1 &&& (3 : Int64)) - (1 : Int64)) (0 : Int64)))])) _
          refine XS.ifYes X86.here hx rfl (pc0 := 57) (pc' := 79) rfl (hb hby at_57) rfl ((if0 _ _).trans (tlt ((lw_lt _ _).mpr hc89)).1) (by decide) (by decide) ?_
          show Steps p.tables e below (T86.setTop (mkF m 79 _ [])) _
          refine XS.iconst X86.here hx rfl (hb hby at_79) ?_
          show Steps p.tables e below (T86.setTop (mkF m 80 _ [(.int (0 : Int32))])) _
          refine XS.istore X86.here hx rfl (hb hby at_80) rfl (l' := #[.val (.long q1), .second, .val (.long q2), .second, .val (.int p3), .val (.long ((q1 &&& (3 : Int64)) - (1 : Int64))), .second, .val (.long ((q2 &&& (3 : Int64)) - (1 : Int64))), .second, .val (.ref b85), .val (.int (0 : Int32))]) rfl ?_
          show Steps p.tables e below (T86.setTop (mkF m 82 _ [])) _
          refine XS.aload X86.here hx rfl (hb hby at_82) rfl rfl ?_
          show Steps p.tables e below (T86.setTop (mkF m 84 _ [(.ref b85)])) _
          refine st90.trans ?_
          show Steps p.tables e below (T90.setTop (mkF m 87 _ [(.int (f4 ((q1 &&& (3 : Int64)) - (1 : Int64)) ((q2 &&& (3 : Int64)) - (1 : Int64))))])) _
          refine XS.iload X90.here hx rfl (hb hby at_87) rfl ?_
          exact kt
        by_cases hc93 : (f4 ((q1 &&& (3 : Int64)) - (1 : Int64)) ((q2 &&& (3 : Int64)) - (1 : Int64))) = (0 : Int32)
        · skip
          obtain ⟨fs, hr, hrun, hended, hW, hsame⟩ := X90.leave (v := some (.int (1 : Int32))) (fun h => by rw [Bd.returns] at h; cases h) (by first | exact BodyLoose.notSynchronized Bd | exact Body.notSynchronized Bd)
          refine ⟨_, _, pre92 _ ?_, hrun, hended, _, _, rfl, ?_, ⟨_, rfl⟩, hW, hsame.mono (by decide) (by decide)⟩
          · show Steps p.tables e below (T90.setTop (mkF m 89 #[.val (.long q1), .second, .val (.long q2), .second, .val (.int p3), .val (.long ((q1 &&& (3 : Int64)) - (1 : Int64))), .second, .val (.long ((q2 &&& (3 : Int64)) - (1 : Int64))), .second, .val (.ref b85), .val (.int (0 : Int32))] [(.int (0 : Int32)), (.int (f4 ((q1 &&& (3 : Int64)) - (1 : Int64)) ((q2 &&& (3 : Int64)) - (1 : Int64))))])) _
            refine XS.icmpNo X90.here hx rfl (hb hby at_89) rfl (teq hc93).2 ?_
            show Steps p.tables e below (T90.setTop (mkF m 92 _ [])) _
            refine XS.iconst X90.here hx rfl (hb hby at_92) ?_
            show Steps p.tables e below (T90.setTop (mkF m 93 _ [(.int (1 : Int32))])) _
            refine XS.goto X90.here hx rfl (pc0 := 93) (pc' := 97) rfl (hb hby at_93) (by decide) (by decide) ?_
            show Steps p.tables e below (T90.setTop (mkF m 97 #[.val (.long q1), .second, .val (.long q2), .second, .val (.int p3), .val (.long ((q1 &&& (3 : Int64)) - (1 : Int64))), .second, .val (.long ((q2 &&& (3 : Int64)) - (1 : Int64))), .second, .val (.ref b85), .val (.int (0 : Int32))] [(.int (1 : Int32))])) _
            exact retN X90 hx (t := .boolean) Bd.returns (by simp) (hb hby at_97) hr
          · show Q0 Z q1 q2 p3 h0 n0 _ T90.heap _
            rw [e90]
            exact ⟨congrArg (fun z => some (Value.int z)) (by rw [f0, if_neg hc5, if_neg hc59, if_pos hc89, if_pos hc93] : f0 q1 q2 p3 = (1 : Int32)).symm, N90⟩
        · skip
          obtain ⟨fs, hr, hrun, hended, hW, hsame⟩ := X90.leave (v := some (.int (0 : Int32))) (fun h => by rw [Bd.returns] at h; cases h) (by first | exact BodyLoose.notSynchronized Bd | exact Body.notSynchronized Bd)
          refine ⟨_, _, pre92 _ ?_, hrun, hended, _, _, rfl, ?_, ⟨_, rfl⟩, hW, hsame.mono (by decide) (by decide)⟩
          · show Steps p.tables e below (T90.setTop (mkF m 89 #[.val (.long q1), .second, .val (.long q2), .second, .val (.int p3), .val (.long ((q1 &&& (3 : Int64)) - (1 : Int64))), .second, .val (.long ((q2 &&& (3 : Int64)) - (1 : Int64))), .second, .val (.ref b85), .val (.int (0 : Int32))] [(.int (0 : Int32)), (.int (f4 ((q1 &&& (3 : Int64)) - (1 : Int64)) ((q2 &&& (3 : Int64)) - (1 : Int64))))])) _
            refine XS.icmpYes X90.here hx rfl (pc0 := 89) (pc' := 96) rfl (hb hby at_89) rfl (feq hc93).2 (by decide) (by decide) ?_
            show Steps p.tables e below (T90.setTop (mkF m 96 _ [])) _
            refine XS.iconst X90.here hx rfl (hb hby at_96) ?_
            show Steps p.tables e below (T90.setTop (mkF m 97 #[.val (.long q1), .second, .val (.long q2), .second, .val (.int p3), .val (.long ((q1 &&& (3 : Int64)) - (1 : Int64))), .second, .val (.long ((q2 &&& (3 : Int64)) - (1 : Int64))), .second, .val (.ref b85), .val (.int (0 : Int32))] [(.int (0 : Int32))])) _
            exact retN X90 hx (t := .boolean) Bd.returns (by simp) (hb hby at_97) hr
          · show Q0 Z q1 q2 p3 h0 n0 _ T90.heap _
            rw [e90]
            exact ⟨congrArg (fun z => some (Value.int z)) (by rw [f0, if_neg hc5, if_neg hc59, if_pos hc89, if_neg hc93] : f0 q1 q2 p3 = (0 : Int32)).symm, N90⟩
      · skip
        have pre94 : ∀ t, Steps p.tables e below (T86.setTop (mkF m 64 #[.val (.long q1), .second, .val (.long q2), .second, .val (.int p3), .val (.long ((q1 &&& (3 : Int64)) - (1 : Int64))), .second, .val (.long ((q2 &&& (3 : Int64)) - (1 : Int64))), .second, .val (.ref b85), .unset] [(.int (lcmpW ((q2 &&& (3 : Int64)) - (1 : Int64)) (1 : Int64)))])) t → Steps p.tables e below (s₁.setTop (entryFrame m #[(.long q1), (.long q2), (.int p3)] maxLocals)) t := fun t kt => by
          refine pre88 _ ?_
          show Steps p.tables e below (T86.setTop (mkF m 57 #[.val (.long q1), .second, .val (.long q2), .second, .val (.int p3), .val (.long ((q1 &&& (3 : Int64)) - (1 : Int64))), .second, .val (.long ((q2 &&& (3 : Int64)) - (1 : Int64))), .second, .val (.ref b85), .unset] [(.int (lcmpW ((q1 &&& (3 : Int64)) - (1 : Int64)) (0 : Int64)))])) _
          refine XS.ifNo X86.here hx rfl (hb hby at_57) rfl ((if0 _ _).trans (flt (mt (lw_lt _ _).mp hc89)).1) ?_
          show Steps p.tables e below (T86.setTop (mkF m 60 _ [])) _
          refine XS.lload X86.here hx rfl (hb hby at_60) rfl ?_
          show Steps p.tables e below (T86.setTop (mkF m 62 _ [(.long ((q2 &&& (3 : Int64)) - (1 : Int64)))])) _
          refine XS.lconst X86.here hx rfl (hb hby at_62) ?_
          show Steps p.tables e below (T86.setTop (mkF m 63 _ [(.long (1 : Int64)), (.long ((q2 &&& (3 : Int64)) - (1 : Int64)))])) _
          refine XS.lcmp X86.here hx rfl (hb hby at_63) rfl ?_
          exact kt
        by_cases hc95 : (1 : Int64) < ((q2 &&& (3 : Int64)) - (1 : Int64))
        · skip
          have Zs97 : n0 ≤ T86.heap.size := (Nat.le_trans Zs87 Kp86.1)
          obtain ⟨cq96, kq96, q96a, q96b, q96c⟩ := isOf hZ rfl qp86_0
          obtain ⟨_, _, ⟨T96, L96, k96, n96⟩, -, X96, ⟨Lc96, hQ96, l96, y96, z96⟩, st96⟩ := X86.virtualBack hx (y := (⟨"com/example/releve/releve/LinearModel$Variable", "isBoolean", "()Z"⟩ : MethodName)) (z := (⟨"com/example/releve/releve/LinearModel$Variable", "isBoolean", "()Z"⟩ : MethodName)) hown (mvT hZ (hw _ (List.mem_of_getElem? (i := 18) rfl))) (mvT hZ (hw _ (List.mem_of_getElem? (i := 19) rfl))) (notFace_of_selects (args := #[]) (mvT hZ (hw _ (List.mem_of_getElem? (i := 21) rfl)))) (mvT hZ (hw _ (List.mem_of_getElem? (i := 21) rfl))) (mvT hZ (hw _ (List.mem_of_getElem? (i := 20) rfl))) (by decide) (backOf (W := 0) (rm4 l Z a0 hw [] b85 ((q1 &&& (3 : Int64)) - (1 : Int64)) ((q2 &&& (3 : Int64)) - (1 : Int64)) T86.heap n0 Zs97 qp86_1 qp86_2) hZ (hw _ (List.mem_of_getElem? (i := 22) rfl)) (hw _ (List.mem_of_getElem? (i := 2) rfl)) (by decide) (by decide)) q96a q96c (g := (mkF m 84 #[.val (.long q1), .second, .val (.long q2), .second, .val (.int p3), .val (.long ((q1 &&& (3 : Int64)) - (1 : Int64))), .second, .val (.long ((q2 &&& (3 : Int64)) - (1 : Int64))), .second, .val (.ref b85), .val (.int (0 : Int32))] [(.ref b85)])) rfl (by rw [hml]; rfl) (Steps.refl _) (argsL := []) (rest := []) (lenOf pd_0_2 rfl) rfl (by show 2 * 0 + _ ≤ _; exact Nat.le_of_eq rfl) (hb hby at_84) (fun _ _ => ⟨rfl, rfl, (by decide : 1 + 0 ≤ _), (by decide : 2 + 0 ≤ _)⟩)
          dsimp only [Pt.U, Pt.locs, Pt.cells, Pt.slots] at X96 l96 y96 z96 st96 hQ96
          subst l96 y96 z96
          obtain ⟨rfl, N96q, e96⟩ := hQ96
          have N96 := Fr.app N86 N96q
          have pre98 : ∀ t, Steps p.tables e below (T96.setTop (mkF m 89 #[.val (.long q1), .second, .val (.long q2), .second, .val (.int p3), .val (.long ((q1 &&& (3 : Int64)) - (1 : Int64))), .second, .val (.long ((q2 &&& (3 : Int64)) - (1 : Int64))), .second, .val (.ref b85), .val (.int (0 : Int32))] [(.int (0 : Int32)), (.int (f4 ((q1 &&& (3 : Int64)) - (1 : Int64)) ((q2 &&& (3 : Int64)) - (1 : Int64))))])) t → Steps p.tables e below (s₁.setTop (entryFrame m #[(.long q1), (.long q2), (.int p3)] maxLocals)) t := fun t kt => by
            refine pre94 _ ?_
            show Steps p.tables e below (T86.setTop (mkF m 64 #[.val (.long q1), .second, .val (.long q2), .second, .val (.int p3), .val (.long ((q1 &&& (3 : Int64)) - (1 : Int64))), .second, .val (.long ((q2 &&& (3 : Int64)) - (1 : Int64))), .second, .val (.ref b85), .unset] [(.int (lcmpW ((q2 &&& (3 : Int64)) - (1 : Int64)) (1 : Int64)))])) _
            refine XS.ifYes X86.here hx rfl (pc0 := 64) (pc' := 79) rfl (hb hby at_64) rfl ((if0 _ _).trans (tlt ((lw_gt _ _).mpr hc95)).2.2.1) (by decide) (by decide) ?_
            show Steps p.tables e below (T86.setTop (mkF m 79 _ [])) _
            refine XS.iconst X86.here hx rfl (hb hby at_79) ?_
            show Steps p.tables e below (T86.setTop (mkF m 80 _ [(.int (0 : Int32))])) _
            refine XS.istore X86.here hx rfl (hb hby at_80) rfl (l' := #[.val (.long q1), .second, .val (.long q2), .second, .val (.int p3), .val (.long ((q1 &&& (3 : Int64)) - (1 : Int64))), .second, .val (.long ((q2 &&& (3 : Int64)) - (1 : Int64))), .second, .val (.ref b85), .val (.int (0 : Int32))]) rfl ?_
            show Steps p.tables e below (T86.setTop (mkF m 82 _ [])) _
            refine XS.aload X86.here hx rfl (hb hby at_82) rfl rfl ?_
            show Steps p.tables e below (T86.setTop (mkF m 84 _ [(.ref b85)])) _
            refine st96.trans ?_
            show Steps p.tables e below (T96.setTop (mkF m 87 _ [(.int (f4 ((q1 &&& (3 : Int64)) - (1 : Int64)) ((q2 &&& (3 : Int64)) - (1 : Int64))))])) _
            refine XS.iload X96.here hx rfl (hb hby at_87) rfl ?_
            exact kt
          by_cases hc99 : (f4 ((q1 &&& (3 : Int64)) - (1 : Int64)) ((q2 &&& (3 : Int64)) - (1 : Int64))) = (0 : Int32)
          · skip
            obtain ⟨fs, hr, hrun, hended, hW, hsame⟩ := X96.leave (v := some (.int (1 : Int32))) (fun h => by rw [Bd.returns] at h; cases h) (by first | exact BodyLoose.notSynchronized Bd | exact Body.notSynchronized Bd)
            refine ⟨_, _, pre98 _ ?_, hrun, hended, _, _, rfl, ?_, ⟨_, rfl⟩, hW, hsame.mono (by decide) (by decide)⟩
            · show Steps p.tables e below (T96.setTop (mkF m 89 #[.val (.long q1), .second, .val (.long q2), .second, .val (.int p3), .val (.long ((q1 &&& (3 : Int64)) - (1 : Int64))), .second, .val (.long ((q2 &&& (3 : Int64)) - (1 : Int64))), .second, .val (.ref b85), .val (.int (0 : Int32))] [(.int (0 : Int32)), (.int (f4 ((q1 &&& (3 : Int64)) - (1 : Int64)) ((q2 &&& (3 : Int64)) - (1 : Int64))))])) _
              refine XS.icmpNo X96.here hx rfl (hb hby at_89) rfl (teq hc99).2 ?_
              show Steps p.tables e below (T96.setTop (mkF m 92 _ [])) _
              refine XS.iconst X96.here hx rfl (hb hby at_92) ?_
              show Steps p.tables e below (T96.setTop (mkF m 93 _ [(.int (1 : Int32))])) _
              refine XS.goto X96.here hx rfl (pc0 := 93) (pc' := 97) rfl (hb hby at_93) (by decide) (by decide) ?_
              show Steps p.tables e below (T96.setTop (mkF m 97 #[.val (.long q1), .second, .val (.long q2), .second, .val (.int p3), .val (.long ((q1 &&& (3 : Int64)) - (1 : Int64))), .second, .val (.long ((q2 &&& (3 : Int64)) - (1 : Int64))), .second, .val (.ref b85), .val (.int (0 : Int32))] [(.int (1 : Int32))])) _
              exact retN X96 hx (t := .boolean) Bd.returns (by simp) (hb hby at_97) hr
            · show Q0 Z q1 q2 p3 h0 n0 _ T96.heap _
              rw [e96]
              exact ⟨congrArg (fun z => some (Value.int z)) (by rw [f0, if_neg hc5, if_neg hc59, if_neg hc89, if_pos hc95, if_pos hc99] : f0 q1 q2 p3 = (1 : Int32)).symm, N96⟩
          · skip
            obtain ⟨fs, hr, hrun, hended, hW, hsame⟩ := X96.leave (v := some (.int (0 : Int32))) (fun h => by rw [Bd.returns] at h; cases h) (by first | exact BodyLoose.notSynchronized Bd | exact Body.notSynchronized Bd)
            refine ⟨_, _, pre98 _ ?_, hrun, hended, _, _, rfl, ?_, ⟨_, rfl⟩, hW, hsame.mono (by decide) (by decide)⟩
            · show Steps p.tables e below (T96.setTop (mkF m 89 #[.val (.long q1), .second, .val (.long q2), .second, .val (.int p3), .val (.long ((q1 &&& (3 : Int64)) - (1 : Int64))), .second, .val (.long ((q2 &&& (3 : Int64)) - (1 : Int64))), .second, .val (.ref b85), .val (.int (0 : Int32))] [(.int (0 : Int32)), (.int (f4 ((q1 &&& (3 : Int64)) - (1 : Int64)) ((q2 &&& (3 : Int64)) - (1 : Int64))))])) _
              refine XS.icmpYes X96.here hx rfl (pc0 := 89) (pc' := 96) rfl (hb hby at_89) rfl (feq hc99).2 (by decide) (by decide) ?_
              show Steps p.tables e below (T96.setTop (mkF m 96 _ [])) _
              refine XS.iconst X96.here hx rfl (hb hby at_96) ?_
              show Steps p.tables e below (T96.setTop (mkF m 97 #[.val (.long q1), .second, .val (.long q2), .second, .val (.int p3), .val (.long ((q1 &&& (3 : Int64)) - (1 : Int64))), .second, .val (.long ((q2 &&& (3 : Int64)) - (1 : Int64))), .second, .val (.ref b85), .val (.int (0 : Int32))] [(.int (0 : Int32))])) _
              exact retN X96 hx (t := .boolean) Bd.returns (by simp) (hb hby at_97) hr
            · show Q0 Z q1 q2 p3 h0 n0 _ T96.heap _
              rw [e96]
              exact ⟨congrArg (fun z => some (Value.int z)) (by rw [f0, if_neg hc5, if_neg hc59, if_neg hc89, if_pos hc95, if_neg hc99] : f0 q1 q2 p3 = (0 : Int32)).symm, N96⟩
        · skip
          have pre100 : ∀ t, Steps p.tables e below (T86.setTop (mkF m 72 #[.val (.long q1), .second, .val (.long q2), .second, .val (.int p3), .val (.long ((q1 &&& (3 : Int64)) - (1 : Int64))), .second, .val (.long ((q2 &&& (3 : Int64)) - (1 : Int64))), .second, .val (.ref b85), .unset] [(.int (lcmpW ((q1 &&& (3 : Int64)) - (1 : Int64)) ((q2 &&& (3 : Int64)) - (1 : Int64))))])) t → Steps p.tables e below (s₁.setTop (entryFrame m #[(.long q1), (.long q2), (.int p3)] maxLocals)) t := fun t kt => by
            refine pre94 _ ?_
            show Steps p.tables e below (T86.setTop (mkF m 64 #[.val (.long q1), .second, .val (.long q2), .second, .val (.int p3), .val (.long ((q1 &&& (3 : Int64)) - (1 : Int64))), .second, .val (.long ((q2 &&& (3 : Int64)) - (1 : Int64))), .second, .val (.ref b85), .unset] [(.int (lcmpW ((q2 &&& (3 : Int64)) - (1 : Int64)) (1 : Int64)))])) _
            refine XS.ifNo X86.here hx rfl (hb hby at_64) rfl ((if0 _ _).trans (flt (mt (lw_gt _ _).mp hc95)).2.2.1) ?_
            show Steps p.tables e below (T86.setTop (mkF m 67 _ [])) _
            refine XS.lload X86.here hx rfl (hb hby at_67) rfl ?_
            show Steps p.tables e below (T86.setTop (mkF m 69 _ [(.long ((q1 &&& (3 : Int64)) - (1 : Int64)))])) _
            refine XS.lload X86.here hx rfl (hb hby at_69) rfl ?_
            show Steps p.tables e below (T86.setTop (mkF m 71 _ [(.long ((q2 &&& (3 : Int64)) - (1 : Int64))), (.long ((q1 &&& (3 : Int64)) - (1 : Int64)))])) _
            refine XS.lcmp X86.here hx rfl (hb hby at_71) rfl ?_
            exact kt
          by_cases hc101 : ((q1 &&& (3 : Int64)) - (1 : Int64)) < ((q2 &&& (3 : Int64)) - (1 : Int64))
          · skip
            have Zs103 : n0 ≤ T86.heap.size := (Nat.le_trans Zs87 Kp86.1)
            obtain ⟨cq102, kq102, q102a, q102b, q102c⟩ := isOf hZ rfl qp86_0
            obtain ⟨_, _, ⟨T102, L102, k102, n102⟩, -, X102, ⟨Lc102, hQ102, l102, y102, z102⟩, st102⟩ := X86.virtualBack hx (y := (⟨"com/example/releve/releve/LinearModel$Variable", "isBoolean", "()Z"⟩ : MethodName)) (z := (⟨"com/example/releve/releve/LinearModel$Variable", "isBoolean", "()Z"⟩ : MethodName)) hown (mvT hZ (hw _ (List.mem_of_getElem? (i := 18) rfl))) (mvT hZ (hw _ (List.mem_of_getElem? (i := 19) rfl))) (notFace_of_selects (args := #[]) (mvT hZ (hw _ (List.mem_of_getElem? (i := 21) rfl)))) (mvT hZ (hw _ (List.mem_of_getElem? (i := 21) rfl))) (mvT hZ (hw _ (List.mem_of_getElem? (i := 20) rfl))) (by decide) (backOf (W := 0) (rm4 l Z a0 hw [] b85 ((q1 &&& (3 : Int64)) - (1 : Int64)) ((q2 &&& (3 : Int64)) - (1 : Int64)) T86.heap n0 Zs103 qp86_1 qp86_2) hZ (hw _ (List.mem_of_getElem? (i := 22) rfl)) (hw _ (List.mem_of_getElem? (i := 2) rfl)) (by decide) (by decide)) q102a q102c (g := (mkF m 84 #[.val (.long q1), .second, .val (.long q2), .second, .val (.int p3), .val (.long ((q1 &&& (3 : Int64)) - (1 : Int64))), .second, .val (.long ((q2 &&& (3 : Int64)) - (1 : Int64))), .second, .val (.ref b85), .val (.int (1 : Int32))] [(.ref b85)])) rfl (by rw [hml]; rfl) (Steps.refl _) (argsL := []) (rest := []) (lenOf pd_0_2 rfl) rfl (by show 2 * 0 + _ ≤ _; exact Nat.le_of_eq rfl) (hb hby at_84) (fun _ _ => ⟨rfl, rfl, (by decide : 1 + 0 ≤ _), (by decide : 2 + 0 ≤ _)⟩)
            dsimp only [Pt.U, Pt.locs, Pt.cells, Pt.slots] at X102 l102 y102 z102 st102 hQ102
            subst l102 y102 z102
            obtain ⟨rfl, N102q, e102⟩ := hQ102
            have N102 := Fr.app N86 N102q
            have pre104 : ∀ t, Steps p.tables e below (T102.setTop (mkF m 89 #[.val (.long q1), .second, .val (.long q2), .second, .val (.int p3), .val (.long ((q1 &&& (3 : Int64)) - (1 : Int64))), .second, .val (.long ((q2 &&& (3 : Int64)) - (1 : Int64))), .second, .val (.ref b85), .val (.int (1 : Int32))] [(.int (1 : Int32)), (.int (f4 ((q1 &&& (3 : Int64)) - (1 : Int64)) ((q2 &&& (3 : Int64)) - (1 : Int64))))])) t → Steps p.tables e below (s₁.setTop (entryFrame m #[(.long q1), (.long q2), (.int p3)] maxLocals)) t := fun t kt => by
              refine pre100 _ ?_
              show Steps p.tables e below (T86.setTop (mkF m 72 #[.val (.long q1), .second, .val (.long q2), .second, .val (.int p3), .val (.long ((q1 &&& (3 : Int64)) - (1 : Int64))), .second, .val (.long ((q2 &&& (3 : Int64)) - (1 : Int64))), .second, .val (.ref b85), .unset] [(.int (lcmpW ((q1 &&& (3 : Int64)) - (1 : Int64)) ((q2 &&& (3 : Int64)) - (1 : Int64))))])) _
              refine XS.ifNo X86.here hx rfl (hb hby at_72) rfl ((if0 _ _).trans (tlt ((lw_lt _ _).mpr hc101)).2.1) ?_
              show Steps p.tables e below (T86.setTop (mkF m 75 _ [])) _
              refine XS.iconst X86.here hx rfl (hb hby at_75) ?_
              show Steps p.tables e below (T86.setTop (mkF m 76 _ [(.int (1 : Int32))])) _
              refine XS.goto X86.here hx rfl (pc0 := 76) (pc' := 80) rfl (hb hby at_76) (by decide) (by decide) ?_
              show Steps p.tables e below (T86.setTop (mkF m 80 _ [(.int (1 : Int32))])) _
              refine XS.istore X86.here hx rfl (hb hby at_80) rfl (l' := #[.val (.long q1), .second, .val (.long q2), .second, .val (.int p3), .val (.long ((q1 &&& (3 : Int64)) - (1 : Int64))), .second, .val (.long ((q2 &&& (3 : Int64)) - (1 : Int64))), .second, .val (.ref b85), .val (.int (1 : Int32))]) rfl ?_
              show Steps p.tables e below (T86.setTop (mkF m 82 _ [])) _
              refine XS.aload X86.here hx rfl (hb hby at_82) rfl rfl ?_
              show Steps p.tables e below (T86.setTop (mkF m 84 _ [(.ref b85)])) _
              refine st102.trans ?_
              show Steps p.tables e below (T102.setTop (mkF m 87 _ [(.int (f4 ((q1 &&& (3 : Int64)) - (1 : Int64)) ((q2 &&& (3 : Int64)) - (1 : Int64))))])) _
              refine XS.iload X102.here hx rfl (hb hby at_87) rfl ?_
              exact kt
            by_cases hc105 : (f4 ((q1 &&& (3 : Int64)) - (1 : Int64)) ((q2 &&& (3 : Int64)) - (1 : Int64))) = (1 : Int32)
            · skip
              obtain ⟨fs, hr, hrun, hended, hW, hsame⟩ := X102.leave (v := some (.int (1 : Int32))) (fun h => by rw [Bd.returns] at h; cases h) (by first | exact BodyLoose.notSynchronized Bd | exact Body.notSynchronized Bd)
              refine ⟨_, _, pre104 _ ?_, hrun, hended, _, _, rfl, ?_, ⟨_, rfl⟩, hW, hsame.mono (by decide) (by decide)⟩
              · show Steps p.tables e below (T102.setTop (mkF m 89 #[.val (.long q1), .second, .val (.long q2), .second, .val (.int p3), .val (.long ((q1 &&& (3 : Int64)) - (1 : Int64))), .second, .val (.long ((q2 &&& (3 : Int64)) - (1 : Int64))), .second, .val (.ref b85), .val (.int (1 : Int32))] [(.int (1 : Int32)), (.int (f4 ((q1 &&& (3 : Int64)) - (1 : Int64)) ((q2 &&& (3 : Int64)) - (1 : Int64))))])) _
                refine XS.icmpNo X102.here hx rfl (hb hby at_89) rfl (teq hc105).2 ?_
                show Steps p.tables e below (T102.setTop (mkF m 92 _ [])) _
                refine XS.iconst X102.here hx rfl (hb hby at_92) ?_
                show Steps p.tables e below (T102.setTop (mkF m 93 _ [(.int (1 : Int32))])) _
                refine XS.goto X102.here hx rfl (pc0 := 93) (pc' := 97) rfl (hb hby at_93) (by decide) (by decide) ?_
                show Steps p.tables e below (T102.setTop (mkF m 97 #[.val (.long q1), .second, .val (.long q2), .second, .val (.int p3), .val (.long ((q1 &&& (3 : Int64)) - (1 : Int64))), .second, .val (.long ((q2 &&& (3 : Int64)) - (1 : Int64))), .second, .val (.ref b85), .val (.int (1 : Int32))] [(.int (1 : Int32))])) _
                exact retN X102 hx (t := .boolean) Bd.returns (by simp) (hb hby at_97) hr
              · show Q0 Z q1 q2 p3 h0 n0 _ T102.heap _
                rw [e102]
                exact ⟨congrArg (fun z => some (Value.int z)) (by rw [f0, if_neg hc5, if_neg hc59, if_neg hc89, if_neg hc95, if_pos hc101, if_pos hc105] : f0 q1 q2 p3 = (1 : Int32)).symm, N102⟩
            · skip
              obtain ⟨fs, hr, hrun, hended, hW, hsame⟩ := X102.leave (v := some (.int (0 : Int32))) (fun h => by rw [Bd.returns] at h; cases h) (by first | exact BodyLoose.notSynchronized Bd | exact Body.notSynchronized Bd)
              refine ⟨_, _, pre104 _ ?_, hrun, hended, _, _, rfl, ?_, ⟨_, rfl⟩, hW, hsame.mono (by decide) (by decide)⟩
              · show Steps p.tables e below (T102.setTop (mkF m 89 #[.val (.long q1), .second, .val (.long q2), .second, .val (.int p3), .val (.long ((q1 &&& (3 : Int64)) - (1 : Int64))), .second, .val (.long ((q2 &&& (3 : Int64)) - (1 : Int64))), .second, .val (.ref b85), .val (.int (1 : Int32))] [(.int (1 : Int32)), (.int (f4 ((q1 &&& (3 : Int64)) - (1 : Int64)) ((q2 &&& (3 : Int64)) - (1 : Int64))))])) _
                refine XS.icmpYes X102.here hx rfl (pc0 := 89) (pc' := 96) rfl (hb hby at_89) rfl (feq hc105).2 (by decide) (by decide) ?_
                show Steps p.tables e below (T102.setTop (mkF m 96 _ [])) _
                refine XS.iconst X102.here hx rfl (hb hby at_96) ?_
                show Steps p.tables e below (T102.setTop (mkF m 97 #[.val (.long q1), .second, .val (.long q2), .second, .val (.int p3), .val (.long ((q1 &&& (3 : Int64)) - (1 : Int64))), .second, .val (.long ((q2 &&& (3 : Int64)) - (1 : Int64))), .second, .val (.ref b85), .val (.int (1 : Int32))] [(.int (0 : Int32))])) _
                exact retN X102 hx (t := .boolean) Bd.returns (by simp) (hb hby at_97) hr
              · show Q0 Z q1 q2 p3 h0 n0 _ T102.heap _
                rw [e102]
                exact ⟨congrArg (fun z => some (Value.int z)) (by rw [f0, if_neg hc5, if_neg hc59, if_neg hc89, if_neg hc95, if_pos hc101, if_neg hc105] : f0 q1 q2 p3 = (0 : Int32)).symm, N102⟩
          · skip
            have Zs107 : n0 ≤ T86.heap.size := (Nat.le_trans Zs87 Kp86.1)
            obtain ⟨cq106, kq106, q106a, q106b, q106c⟩ := isOf hZ rfl qp86_0
            obtain ⟨_, _, ⟨T106, L106, k106, n106⟩, -, X106, ⟨Lc106, hQ106, l106, y106, z106⟩, st106⟩ := X86.virtualBack hx (y := (⟨"com/example/releve/releve/LinearModel$Variable", "isBoolean", "()Z"⟩ : MethodName)) (z := (⟨"com/example/releve/releve/LinearModel$Variable", "isBoolean", "()Z"⟩ : MethodName)) hown (mvT hZ (hw _ (List.mem_of_getElem? (i := 18) rfl))) (mvT hZ (hw _ (List.mem_of_getElem? (i := 19) rfl))) (notFace_of_selects (args := #[]) (mvT hZ (hw _ (List.mem_of_getElem? (i := 21) rfl)))) (mvT hZ (hw _ (List.mem_of_getElem? (i := 21) rfl))) (mvT hZ (hw _ (List.mem_of_getElem? (i := 20) rfl))) (by decide) (backOf (W := 0) (rm4 l Z a0 hw [] b85 ((q1 &&& (3 : Int64)) - (1 : Int64)) ((q2 &&& (3 : Int64)) - (1 : Int64)) T86.heap n0 Zs107 qp86_1 qp86_2) hZ (hw _ (List.mem_of_getElem? (i := 22) rfl)) (hw _ (List.mem_of_getElem? (i := 2) rfl)) (by decide) (by decide)) q106a q106c (g := (mkF m 84 #[.val (.long q1), .second, .val (.long q2), .second, .val (.int p3), .val (.long ((q1 &&& (3 : Int64)) - (1 : Int64))), .second, .val (.long ((q2 &&& (3 : Int64)) - (1 : Int64))), .second, .val (.ref b85), .val (.int (0 : Int32))] [(.ref b85)])) rfl (by rw [hml]; rfl) (Steps.refl _) (argsL := []) (rest := []) (lenOf pd_0_2 rfl) rfl (by show 2 * 0 + _ ≤ _; exact Nat.le_of_eq rfl) (hb hby at_84) (fun _ _ => ⟨rfl, rfl, (by decide : 1 + 0 ≤ _), (by decide : 2 + 0 ≤ _)⟩)
            dsimp only [Pt.U, Pt.locs, Pt.cells, Pt.slots] at X106 l106 y106 z106 st106 hQ106
            subst l106 y106 z106
            obtain ⟨rfl, N106q, e106⟩ := hQ106
            have N106 := Fr.app N86 N106q
            have pre108 : ∀ t, Steps p.tables e below (T106.setTop (mkF m 89 #[.val (.long q1), .second, .val (.long q2), .second, .val (.int p3), .val (.long ((q1 &&& (3 : Int64)) - (1 : Int64))), .second, .val (.long ((q2 &&& (3 : Int64)) - (1 : Int64))), .second, .val (.ref b85), .val (.int (0 : Int32))] [(.int (0 : Int32)), (.int (f4 ((q1 &&& (3 : Int64)) - (1 : Int64)) ((q2 &&& (3 : Int64)) - (1 : Int64))))])) t → Steps p.tables e below (s₁.setTop (entryFrame m #[(.long q1), (.long q2), (.int p3)] maxLocals)) t := fun t kt => by
              refine pre100 _ ?_
              show Steps p.tables e below (T86.setTop (mkF m 72 #[.val (.long q1), .second, .val (.long q2), .second, .val (.int p3), .val (.long ((q1 &&& (3 : Int64)) - (1 : Int64))), .second, .val (.long ((q2 &&& (3 : Int64)) - (1 : Int64))), .second, .val (.ref b85), .unset] [(.int (lcmpW ((q1 &&& (3 : Int64)) - (1 : Int64)) ((q2 &&& (3 : Int64)) - (1 : Int64))))])) _
              refine XS.ifYes X86.here hx rfl (pc0 := 72) (pc' := 79) rfl (hb hby at_72) rfl ((if0 _ _).trans (flt (mt (lw_lt _ _).mp hc101)).2.1) (by decide) (by decide) ?_
              show Steps p.tables e below (T86.setTop (mkF m 79 _ [])) _
              refine XS.iconst X86.here hx rfl (hb hby at_79) ?_
              show Steps p.tables e below (T86.setTop (mkF m 80 _ [(.int (0 : Int32))])) _
              refine XS.istore X86.here hx rfl (hb hby at_80) rfl (l' := #[.val (.long q1), .second, .val (.long q2), .second, .val (.int p3), .val (.long ((q1 &&& (3 : Int64)) - (1 : Int64))), .second, .val (.long ((q2 &&& (3 : Int64)) - (1 : Int64))), .second, .val (.ref b85), .val (.int (0 : Int32))]) rfl ?_
              show Steps p.tables e below (T86.setTop (mkF m 82 _ [])) _
              refine XS.aload X86.here hx rfl (hb hby at_82) rfl rfl ?_
              show Steps p.tables e below (T86.setTop (mkF m 84 _ [(.ref b85)])) _
              refine st106.trans ?_
              show Steps p.tables e below (T106.setTop (mkF m 87 _ [(.int (f4 ((q1 &&& (3 : Int64)) - (1 : Int64)) ((q2 &&& (3 : Int64)) - (1 : Int64))))])) _
              refine XS.iload X106.here hx rfl (hb hby at_87) rfl ?_
              exact kt
            by_cases hc109 : (f4 ((q1 &&& (3 : Int64)) - (1 : Int64)) ((q2 &&& (3 : Int64)) - (1 : Int64))) = (0 : Int32)
            · skip
              obtain ⟨fs, hr, hrun, hended, hW, hsame⟩ := X106.leave (v := some (.int (1 : Int32))) (fun h => by rw [Bd.returns] at h; cases h) (by first | exact BodyLoose.notSynchronized Bd | exact Body.notSynchronized Bd)
              refine ⟨_, _, pre108 _ ?_, hrun, hended, _, _, rfl, ?_, ⟨_, rfl⟩, hW, hsame.mono (by decide) (by decide)⟩
              · show Steps p.tables e below (T106.setTop (mkF m 89 #[.val (.long q1), .second, .val (.long q2), .second, .val (.int p3), .val (.long ((q1 &&& (3 : Int64)) - (1 : Int64))), .second, .val (.long ((q2 &&& (3 : Int64)) - (1 : Int64))), .second, .val (.ref b85), .val (.int (0 : Int32))] [(.int (0 : Int32)), (.int (f4 ((q1 &&& (3 : Int64)) - (1 : Int64)) ((q2 &&& (3 : Int64)) - (1 : Int64))))])) _
                refine XS.icmpNo X106.here hx rfl (hb hby at_89) rfl (teq hc109).2 ?_
                show Steps p.tables e below (T106.setTop (mkF m 92 _ [])) _
                refine XS.iconst X106.here hx rfl (hb hby at_92) ?_
                show Steps p.tables e below (T106.setTop (mkF m 93 _ [(.int (1 : Int32))])) _
                refine XS.goto X106.here hx rfl (pc0 := 93) (pc' := 97) rfl (hb hby at_93) (by decide) (by decide) ?_
                show Steps p.tables e below (T106.setTop (mkF m 97 #[.val (.long q1), .second, .val (.long q2), .second, .val (.int p3), .val (.long ((q1 &&& (3 : Int64)) - (1 : Int64))), .second, .val (.long ((q2 &&& (3 : Int64)) - (1 : Int64))), .second, .val (.ref b85), .val (.int (0 : Int32))] [(.int (1 : Int32))])) _
                exact retN X106 hx (t := .boolean) Bd.returns (by simp) (hb hby at_97) hr
              · show Q0 Z q1 q2 p3 h0 n0 _ T106.heap _
                rw [e106]
                exact ⟨congrArg (fun z => some (Value.int z)) (by rw [f0, if_neg hc5, if_neg hc59, if_neg hc89, if_neg hc95, if_neg hc101, if_pos hc109] : f0 q1 q2 p3 = (1 : Int32)).symm, N106⟩
            · skip
              obtain ⟨fs, hr, hrun, hended, hW, hsame⟩ := X106.leave (v := some (.int (0 : Int32))) (fun h => by rw [Bd.returns] at h; cases h) (by first | exact BodyLoose.notSynchronized Bd | exact Body.notSynchronized Bd)
              refine ⟨_, _, pre108 _ ?_, hrun, hended, _, _, rfl, ?_, ⟨_, rfl⟩, hW, hsame.mono (by decide) (by decide)⟩
              · show Steps p.tables e below (T106.setTop (mkF m 89 #[.val (.long q1), .second, .val (.long q2), .second, .val (.int p3), .val (.long ((q1 &&& (3 : Int64)) - (1 : Int64))), .second, .val (.long ((q2 &&& (3 : Int64)) - (1 : Int64))), .second, .val (.ref b85), .val (.int (0 : Int32))] [(.int (0 : Int32)), (.int (f4 ((q1 &&& (3 : Int64)) - (1 : Int64)) ((q2 &&& (3 : Int64)) - (1 : Int64))))])) _
                refine XS.icmpYes X106.here hx rfl (pc0 := 89) (pc' := 96) rfl (hb hby at_89) rfl (feq hc109).2 (by decide) (by decide) ?_
                show Steps p.tables e below (T106.setTop (mkF m 96 _ [])) _
                refine XS.iconst X106.here hx rfl (hb hby at_96) ?_
                show Steps p.tables e below (T106.setTop (mkF m 97 #[.val (.long q1), .second, .val (.long q2), .second, .val (.int p3), .val (.long ((q1 &&& (3 : Int64)) - (1 : Int64))), .second, .val (.long ((q2 &&& (3 : Int64)) - (1 : Int64))), .second, .val (.ref b85), .val (.int (0 : Int32))] [(.int (0 : Int32))])) _
                exact retN X106 hx (t := .boolean) Bd.returns (by simp) (hb hby at_97) hr
              · show Q0 Z q1 q2 p3 h0 n0 _ T106.heap _
                rw [e106]
                exact ⟨congrArg (fun z => some (Value.int z)) (by rw [f0, if_neg hc5, if_neg hc59, if_neg hc89, if_neg hc95, if_neg hc101, if_neg hc109] : f0 q1 q2 p3 = (0 : Int32)).symm, N106⟩
theorem own_g (a b : Int64) : (if a < (0 : Int64) then (if (f4 a b) = (0 : Int32) then (1 : Int32) else (0 : Int32)) else (if (1 : Int64) < b then (if (f4 a b) = (0 : Int32) then (1 : Int32) else (0 : Int32)) else (if a < b then (if (f4 a b) = (1 : Int32) then (1 : Int32) else (0 : Int32)) else (if (f4 a b) = (0 : Int32) then (1 : Int32) else (0 : Int32))))) = 1 := by
  have k0 : (0 : Int64).toInt = 0 := by decide
  have k1 : (1 : Int64).toInt = 1 := by decide
  by_cases e0 : a = (0 : Int64)
  · by_cases e1 : b = (1 : Int64)
    · subst e0 e1; decide
    · have hf : f4 a b = 0 := by unfold f4; rw [if_pos e0, if_neg e1]
      rw [hf]
      (repeat' split) <;> first
        | rfl
        | (exfalso; rename_i h; exact h rfl)
        | (exfalso
           simp only [Int64.lt_iff_toInt_lt, ← Int64.toInt_inj] at *
           omega)
  · have hf : f4 a b = 0 := by unfold f4; rw [if_neg e0]
    rw [hf]
    (repeat' split) <;> first
      | rfl
      | (exfalso; rename_i h; exact h rfl)
      | (exfalso
         simp only [Int64.lt_iff_toInt_lt, ← Int64.toInt_inj] at *
         omega)
theorem own_plain (a b : Int64) (k : Int32) : f0 a b k = 1 := by
  unfold f0
  rw [own_g, own_g, own_g, own_g]
  (repeat' split) <;> rfl
set_option maxRecDepth 65536 in
set_option maxHeartbeats 40000000 in
theorem comes_1 {Post : Tables → Env → Array Value → State → Outcome → State → Prop} (hpost : ∀ tb e args s v u, (limb_1_1.after args s (.returned v) u = true ∧ limb_1_2.after args s (.returned v) u = true ∧ True) → FrameEnd s (.returned v) u (Jvm.fieldLocs frame_1_writes args s ++ Jvm.arrayLocs frame_1_arrays args s ++ Jvm.staticLocs frame_1_statics s) 16 128 → Post tb e args s (.returned v) u) :
    ArmFor flags0 classFile x code maxLocals ret World_1 tables_1 room_1 Calls_1 rest_1 Pre_1 Post := by
  intro l hfl _ _ p e ha hc hk s m args below hf hA hF happ hP
  obtain ⟨hcalls, hrest, hpre⟩ := hP
  obtain ⟨-, -, -, hnamed, -, -, -, hat⟩ := (Spec.applies_iff hf).mp happ
  obtain ⟨hg, hn⟩ := and_e (Cond.before_iff.mp (show (Jvm.Cond.and given_1 narrow_1).before args s = true from hpre))
  obtain ⟨gc, hg⟩ := and_e hg
  obtain ⟨gi0, hg⟩ := and_e hg
  obtain ⟨gi1, hg⟩ := and_e hg
  obtain ⟨w0, w1, w2, rfl⟩ : ∃ w0 w1 w2 : Value, args = #[w0, w1, w2] := by
    have hs : args.size = 3 := by simpa [Cond.value, given_1] using gc
    obtain ⟨L⟩ := args
    match L, hs with
    | [w0, w1, w2], _ => exact ⟨w0, w1, w2, rfl⟩
  have hw := fun d (hd : d ∈ tables_1) => atoms_spec (ws := Jvm.Cond.code x code maxLocals ret :: tables_1) hat d (List.mem_cons_of_mem _ hd)
  obtain ⟨i0, ei0⟩ := isL_v gi0
  obtain rfl : w0 = (.long i0) := Option.some.inj ei0
  obtain ⟨i1, ei1⟩ := isL_v gi1
  obtain rfl : w1 = (.long i1) := Option.some.inj ei1
  obtain ⟨i2, ei2⟩ := is_v hg
  obtain rfl : w2 = (.int i2) := Option.some.inj ei2
  obtain ⟨n, o, h1, h2, h3, vr, L, rfl, ⟨hvr, N⟩, hq⟩ := rm0 l s _ hw tables_1 i0 i1 i2 s.heap s.heap.size (Nat.le_refl _)  p e ha hc hk s m _ below hf ((Spec.applies_iff_loose hf).mp happ).1 ⟨rfl, State.Warmed39.refl s, rfl⟩ trivial
  have hpl : f0 i0 i1 i2 = 1 := own_plain i0 i1 i2 
  rw [hpl] at hvr
  subst hvr
  refine ⟨n, _, h1, h2, h3, hpost _ _ _ _ _ _ ⟨Cond.after_iff.mpr rfl, Cond.after_iff.mpr (eq_i res_at (Term.int_eval (1)) rfl), trivial⟩ ⟨hq.1, hq.2.1, (hq.2.2.sift fun y hy => Or.inr (N y hy)).mono (by decide) (by decide)⟩⟩
theorem main_1_1 : Claimed_1_1 := comes_1 fun _ _ _ _ _ _ h hF => ⟨h.1, hF⟩
theorem main_1_2 : Claimed_1_2 := comes_1 fun _ _ _ _ _ _ h hF => ⟨h.2.1, hF⟩

end Jvm.Pilot.@@N@@
namespace Jvm.Pilot.@@N@@
open Jvm Jvm.ClassFile Sem Op Lib Jvm.Free Jvm.Stand Jvm.Pilot.@@N@@.Jvm.D
/-! MADE BY PROGRAM (witnessworld.py) out of the Statement's table words and the real class files: 10 classes; the members and pool entries that the words name. The judged class is class 1, her method 1. -/
namespace start1
open Jvm.ClassFile
def u (s : String) : CpInfo := .utf8 (stringToUtf16 s)
/-- a pool by its gaps: so many unusable entries, then the entry; so many at the end -/
def gap : Nat → List CpInfo → List CpInfo
  | 0, r => r
  | n + 1, r => .unusable :: gap n r
def poolList (es : List (Nat × CpInfo)) (last : Nat) : List CpInfo := es.foldr (fun e r => gap e.1 (e.2 :: r)) (gap last [])
def pool (es : List (Nat × CpInfo)) (last : Nat) : Array CpInfo := ⟨poolList es last⟩
def fileOf (pool : Array CpInfo) (this : Nat) (attrs : Array Attribute := #[]) (ms : Array MethodInfo := #[]) (fl : Nat := 33) (sup : Nat := 0) (ifs : Array Nat := #[]) (fds : Array FieldInfo := #[]) : ClassFile where
  minorVersion := 0
  majorVersion := 65
  constantPool := pool
  accessFlags := fl
  thisClass := this
  superClass := sup
  interfaces := ifs
  fields := fds
  methods := ms
  attributes := attrs
def plain (name : String) (sup : Option ClassId) : Class where
  name := name
  kind := .ordinary
  loader := none
  accessFlags := 33
  super := sup
  interfaces := #[]
  cf := none
  fields := #[]
  methods := #[]
  instanceTypes := #[]
  staticTypes := #[]
  resolved := #[]
  callSites := []
  init := .initialized
  statics := none
  mirror := none

def pool0 : Array CpInfo := pool [(5, u "<init>"), (0, u "()V"), (1, .class_ 10), (1, u "java/lang/Object")] 113

def k0c0 : Code := { maxStack := 0, maxLocals := 1, code := object_method_1_code, exceptionTable := #[], attributes := #[] }
def k0m0 : Method := { name := "<init>", desc := "()V", sig := { parameters := [], returnType := none }, accessFlags := 1, code := some k0c0 }
/-- java/lang/Object -/
def k0 : Class := { plain "java/lang/Object" none with
  accessFlags := 33
  interfaces := #[]
  cf := some (fileOf pool0 8 #[] #[{ accessFlags := 1, nameIndex := 5, descriptorIndex := 6, attributes := #[] }] 33 0 #[] #[])
  fields := #[]
  methods := #[k0m0]
  instanceTypes := #[]
  staticTypes := #[]
  resolved := Array.replicate 124 none
  statics := none }

def pool1 : Array CpInfo := pool [(2, .class_ 4), (1, u "java/lang/Object"), (0, u "<init>"), (0, u "()V"), (0, .long 3), (1, .class_ 10), (0, u "com/example/releve/releve/LinearModel$Variable"), (0, .methodref 9 12), (0, .nameAndType 5 13), (0, u "(JJ)V"), (0, .methodref 9 15), (0, .nameAndType 16 17), (0, u "isBoolean"), (0, u "()Z"), (0, .class_ 19), (0, u "com/example/releve/releve/VariableIsBooleanPinLaw"), (2, u "law"), (0, u "(JJI)Z")] 7

def k1m0 : Method := { name := "<init>", desc := "()V", sig := { parameters := [], returnType := none }, accessFlags := 1, code := none }
def k1c1 : Code := { maxStack := 6, maxLocals := 11, code := code, exceptionTable := #[], attributes := #[] }
def k1m1 : Method := { name := "law", desc := "(JJI)Z", sig := { parameters := [.long, .long, .int], returnType := some .boolean }, accessFlags := 9, code := some k1c1 }
/-- com/example/releve/releve/VariableIsBooleanPinLaw -/
def k1 : Class := { plain "com/example/releve/releve/VariableIsBooleanPinLaw" (some 0) with
  accessFlags := 49
  interfaces := #[]
  cf := some (fileOf pool1 18 #[] #[{ accessFlags := 1, nameIndex := 5, descriptorIndex := 6, attributes := #[] }, { accessFlags := 9, nameIndex := 22, descriptorIndex := 23, attributes := #[] }] 49 2 #[] #[])
  fields := #[]
  methods := #[k1m0, k1m1]
  instanceTypes := #[]
  staticTypes := #[]
  resolved := Array.replicate 31 none
  statics := none }

def pool2 : Array CpInfo := pool [(1, .methodref 2 3), (0, .class_ 4), (0, .nameAndType 5 6), (0, u "java/lang/Object"), (0, u "<init>"), (0, u "()V"), (0, .class_ 8), (0, u "java/lang/Record")] 13

def k2c0 : Code := { maxStack := 1, maxLocals := 1, code := jdk_30_method_1_code, exceptionTable := #[], attributes := #[] }
def k2m0 : Method := { name := "<init>", desc := "()V", sig := { parameters := [], returnType := none }, accessFlags := 4, code := some k2c0 }
/-- java/lang/Record -/
def k2 : Class := { plain "java/lang/Record" (some 0) with
  accessFlags := 1057
  interfaces := #[]
  cf := some (fileOf pool2 7 #[] #[{ accessFlags := 4, nameIndex := 5, descriptorIndex := 6, attributes := #[] }] 1057 2 #[] #[])
  fields := #[]
  methods := #[k2m0]
  instanceTypes := #[]
  staticTypes := #[]
  resolved := Array.replicate 22 none
  statics := none }

def pool3 : Array CpInfo := pool [(1, .methodref 2 3), (0, .class_ 4), (0, .nameAndType 5 6), (0, u "java/lang/Record"), (0, u "<init>"), (0, u "()V"), (0, .fieldref 8 9), (0, .class_ 10), (0, .nameAndType 11 12), (0, u "com/example/releve/releve/LinearModel$Variable"), (0, u "lower"), (0, u "J"), (0, .fieldref 8 14), (0, .nameAndType 15 12), (0, u "upper"), (12, u "(JJ)V"), (3, u "isBoolean"), (0, u "()Z"), (8, .class_ 43), (0, u "com/example/releve/releve/LinearModel")] 20

def k3c0 : Code := { maxStack := 3, maxLocals := 5, code := prog_32_method_1_code, exceptionTable := #[], attributes := #[] }
def k3m0 : Method := { name := "<init>", desc := "(JJ)V", sig := { parameters := [.long, .long], returnType := none }, accessFlags := 0, code := some k3c0 }
def k3c1 : Code := { maxStack := 4, maxLocals := 1, code := prog_32_method_2_code, exceptionTable := #[], attributes := #[] }
def k3m1 : Method := { name := "isBoolean", desc := "()Z", sig := { parameters := [], returnType := some .boolean }, accessFlags := 0, code := some k3c1 }
/-- com/example/releve/releve/LinearModel$Variable -/
def k3 : Class := { plain "com/example/releve/releve/LinearModel$Variable" (some 2) with
  accessFlags := 48
  interfaces := #[]
  cf := some (fileOf pool3 8 #[.nestHost 42] #[{ accessFlags := 0, nameIndex := 5, descriptorIndex := 28, attributes := #[] }, { accessFlags := 0, nameIndex := 32, descriptorIndex := 33, attributes := #[] }] 48 2 #[] #[{ accessFlags := 18, nameIndex := 11, descriptorIndex := 12, attributes := #[] }, { accessFlags := 18, nameIndex := 15, descriptorIndex := 12, attributes := #[] }])
  fields := #[{ name := "lower", type := .long, accessFlags := 18, slot := 0, constantValue := 0 }, { name := "upper", type := .long, accessFlags := 18, slot := 1, constantValue := 0 }]
  methods := #[k3m0, k3m1]
  instanceTypes := #[.long, .long]
  staticTypes := #[]
  resolved := Array.replicate 64 none
  statics := none }

def pool4 : Array CpInfo := pool [(1, u "java/lang/Cloneable"), (0, .class_ 1), (0, u "java/lang/Object"), (0, .class_ 3)] 3

/-- java/lang/Cloneable -/
def k4 : Class := { plain "java/lang/Cloneable" (some 0) with
  accessFlags := 1537
  interfaces := #[]
  cf := some (fileOf pool4 2 #[] #[] 1537 4 #[] #[])
  fields := #[]
  methods := #[]
  instanceTypes := #[]
  staticTypes := #[]
  resolved := Array.replicate 8 none
  statics := none }

def pool5 : Array CpInfo := pool [(1, u "java/io/Serializable"), (0, .class_ 1), (0, u "java/lang/Object"), (0, .class_ 3)] 3

/-- java/io/Serializable -/
def k5 : Class := { plain "java/io/Serializable" (some 0) with
  accessFlags := 1537
  interfaces := #[]
  cf := some (fileOf pool5 2 #[] #[] 1537 4 #[] #[])
  fields := #[]
  methods := #[]
  instanceTypes := #[]
  staticTypes := #[]
  resolved := Array.replicate 8 none
  statics := none }

/-- the primitive byte -/
def k6 : Class := { plain "byte" none with kind := .primitive 'B', accessFlags := 0x411 }
/-- [B -/
def k7 : Class := { plain "[B" (some 0) with kind := .array 6 .byte, interfaces := #[4, 5], accessFlags := 1041 }

/-- the primitive int -/
def k8 : Class := { plain "int" none with kind := .primitive 'I', accessFlags := 0x411 }
/-- [I -/
def k9 : Class := { plain "[I" (some 0) with kind := .array 8 .int, interfaces := #[4, 5], accessFlags := 1041 }

def heap : Heap := #[]
def classes : Array Class := #[k0, k1, k2, k3, k4, k5, k6, k7, k8, k9]
def interned : List (Array UInt16 × Addr) := []
def slotsUsed : Nat := 0
def theMethod : MethodId := ⟨1, 1⟩
def args0 : Array Value := #[.long 5, .long 7, .int 1]
def aboutOver (below : List Frame) : State where
  vm := { classes := classes, interned := interned.toArray }
  heap := heap
  slotsUsed := slotsUsed
  threads := #[{ frames := .invoking theMethod args0 :: below }]
def below0 : List Frame := [.native { method := ⟨0, 0⟩, args := #[] }]
def about1 : State := aboutOver below0
def p0 : Program := .bare "" "" ""
def e0 : Env := launch0.env 0 0 0
theorem w_frames : about1.frames = Frame.invoking theMethod args0 :: below0 := rfl
set_option maxRecDepth 65536 in
theorem w_args : argsFit about1.vm theMethod args0 = true := by decide +kernel
set_option maxRecDepth 65536 in
theorem w_heap : heapFits about1 = true := by decide +kernel
set_option maxRecDepth 65536 in
theorem w_runnable : about1.curStatus? = some .runnable := by decide +kernel
set_option maxRecDepth 65536 in
theorem w_alone : about1.alone = true := by decide +kernel
set_option maxRecDepth 65536 in
theorem w_named : about1.methodNamed? x = some theMethod := by decide +kernel
set_option maxRecDepth 65536 in
theorem w_hears : about1.hears theMethod below0 = true := by decide +kernel
set_option maxRecDepth 65536 in
theorem w_ripe : about1.ripe theMethod args0 below0 = true := by decide +kernel
theorem w_running : about1.status = .running := rfl
set_option maxRecDepth 65536 in
theorem w_room : about1.hasRoom e0.platform room_1 = true :=
  launch0.hasRoom_least _ room_1 (by decide +kernel) (by decide +kernel) (by decide +kernel) (by decide +kernel) (by decide +kernel) (by decide +kernel)
theorem allAtoms_all (ts : List Jvm.Cond) (a : Array Jvm.Value) (st : Jvm.State) : (allAtoms ts).before a st = ts.all (fun c => c.before a st) := by
  induction ts with
  | nil => rfl
  | cons c t ih =>
    show (Jvm.Cond.and c (allAtoms t)).before a st = _
    rw [Jvm.Cond.before_and, ih, List.all_cons]
def words1 : List Jvm.Cond := Jvm.Cond.code x code maxLocals ret :: tables_1
/-- a 'code' word, met by the world's own term for the bytes: nothing is compared byte by byte -/
theorem code_word {y : MethodName} {bytes : ByteArray} {mx : Nat} {rt : Option FieldType} {a : Array Value} {s : State} {m : MethodId} {meth : Method} {c : Code} (h1 : s.methodNamed? y = some m) (h2 : s.vm.method? m = some meth) (h3 : meth.code = some c) (h4 : c.code = bytes)
    (h5 : (c.maxLocals == mx && c.exceptionTable.isEmpty && decide (c.maxStack ≤ mostOperands) && decide (meth.sig.returnType = rt) && !meth.locks && decide (parseMethodDescriptor y.desc = some meth.sig)) = true) : (Jvm.Cond.code y bytes mx rt).before a s = true := by
  simp only [Bool.and_eq_true, beq_iff_eq, Bool.not_eq_true', decide_eq_true_eq] at h5
  obtain ⟨⟨⟨⟨⟨g1, g2⟩, g3⟩, g4⟩, g5⟩, g6⟩ := h5
  simp [Cond.before, Cond.holds, Cond.value, h1, h2, h3, h4, g1, g2, g3, g4, g5, g6]
def isCode : Jvm.Cond → Bool
  | .code _ _ _ _ => true
  | _ => false
theorem all_split {L : List Jvm.Cond} {P : Jvm.Cond → Bool} (h1 : L.all (fun c => isCode c || P c) = true) (h2 : ∀ c ∈ L.filter isCode, P c = true) : L.all P = true := by
  refine List.all_eq_true.mpr fun c hc => ?_
  have h := List.all_eq_true.mp h1 c hc
  rcases Bool.eq_false_or_eq_true (isCode c) with hi | hi
  · exact h2 c (List.mem_filter.mpr ⟨hc, hi⟩)
  · simpa [hi] using h
set_option maxRecDepth 65536 in
theorem w_c0 : (Jvm.Cond.code x code maxLocals ret).before args0 about1 = true := code_word (m := ⟨1, 1⟩) (meth := k1m1) (c := k1c1) (by decide +kernel) rfl rfl rfl (by decide +kernel)
set_option maxRecDepth 65536 in
theorem w_c1 : (Jvm.Cond.code ({ cls := "com/example/releve/releve/LinearModel$Variable", name := "<init>", desc := "(JJ)V" } : Jvm.MethodName) prog_32_method_1_code (5 : Nat) (Option.none : Option Jvm.ClassFile.FieldType)).before args0 about1 = true := code_word (m := ⟨3, 0⟩) (meth := k3m0) (c := k3c0) (by decide +kernel) rfl rfl rfl (by decide +kernel)
set_option maxRecDepth 65536 in
theorem w_c2 : (Jvm.Cond.code ({ cls := "java/lang/Record", name := "<init>", desc := "()V" } : Jvm.MethodName) jdk_30_method_1_code (1 : Nat) (Option.none : Option Jvm.ClassFile.FieldType)).before args0 about1 = true := code_word (m := ⟨2, 0⟩) (meth := k2m0) (c := k2c0) (by decide +kernel) rfl rfl rfl (by decide +kernel)
set_option maxRecDepth 65536 in
theorem w_c3 : (Jvm.Cond.code ({ cls := "java/lang/Object", name := "<init>", desc := "()V" } : Jvm.MethodName) object_method_1_code (1 : Nat) (Option.none : Option Jvm.ClassFile.FieldType)).before args0 about1 = true := code_word (m := ⟨0, 0⟩) (meth := k0m0) (c := k0c0) (by decide +kernel) rfl rfl rfl (by decide +kernel)
set_option maxRecDepth 65536 in
theorem w_c4 : (Jvm.Cond.code ({ cls := "com/example/releve/releve/LinearModel$Variable", name := "isBoolean", desc := "()Z" } : Jvm.MethodName) prog_32_method_2_code (1 : Nat) (Option.some Jvm.ClassFile.FieldType.boolean)).before args0 about1 = true := code_word (m := ⟨3, 1⟩) (meth := k3m1) (c := k3c1) (by decide +kernel) rfl rfl rfl (by decide +kernel)
def codes1 : List Jvm.Cond := [Jvm.Cond.code x code maxLocals ret, Jvm.Cond.code ({ cls := "com/example/releve/releve/LinearModel$Variable", name := "<init>", desc := "(JJ)V" } : Jvm.MethodName) prog_32_method_1_code (5 : Nat) (Option.none : Option Jvm.ClassFile.FieldType), Jvm.Cond.code ({ cls := "java/lang/Record", name := "<init>", desc := "()V" } : Jvm.MethodName) jdk_30_method_1_code (1 : Nat) (Option.none : Option Jvm.ClassFile.FieldType), Jvm.Cond.code ({ cls := "java/lang/Object", name := "<init>", desc := "()V" } : Jvm.MethodName) object_method_1_code (1 : Nat) (Option.none : Option Jvm.ClassFile.FieldType), Jvm.Cond.code ({ cls := "com/example/releve/releve/LinearModel$Variable", name := "isBoolean", desc := "()Z" } : Jvm.MethodName) prog_32_method_2_code (1 : Nat) (Option.some Jvm.ClassFile.FieldType.boolean)]
set_option maxRecDepth 65536 in
theorem codes_eq : words1.filter isCode = codes1 := rfl
theorem w_codes : ∀ c ∈ words1.filter isCode, c.before args0 about1 = true := by
  rw [codes_eq]
  intro c hc
  simp only [codes1, List.mem_cons, List.not_mem_nil, or_false] at hc
  rcases hc with rfl | rfl | rfl | rfl | rfl
  · exact w_c0
  · exact w_c1
  · exact w_c2
  · exact w_c3
  · exact w_c4
set_option maxRecDepth 65536 in
theorem w_t1 : (words1.take 24).all (fun c => isCode c || c.before args0 about1) = true := by decide +kernel
set_option maxRecDepth 65536 in
theorem w_t2 : (words1.drop 24).all (fun c => isCode c || c.before args0 about1) = true := by decide +kernel
theorem w_tables : (allAtoms (Jvm.Cond.code x code maxLocals ret :: tables_1)).before args0 about1 = true := by
  rw [allAtoms_all]
  show words1.all (fun c => c.before args0 about1) = true
  refine all_split ?_ w_codes
  rw [← List.take_append_drop 24 words1, List.all_append, w_t1, w_t2]
  rfl
set_option maxRecDepth 65536 in
theorem w_case : (Jvm.Cond.and given_1 narrow_1).before args0 about1 = true := by decide +kernel
theorem w_applies : (headSpec (Jvm.Cond.code x code maxLocals ret :: tables_1) room_1).applies x e0.platform about1 = true :=
  (Spec.applies_iff w_frames).mpr ⟨w_running, w_runnable, w_alone, w_named, w_hears, w_ripe, w_room, w_tables⟩
theorem atStart : AtStart classFile x code maxLocals ret World_1 tables_1 room_1 Calls_1 rest_1 Pre_1 launch0 p0 e0 about1 theMethod args0 below0 :=
  ⟨lists_1, trivial, launch0.admits_env _ _ _, launch0.least_env, fairChoices_fair.cas, fairChoices_fair.clock, w_frames, w_args, w_heap, w_applies, trivial, trivial, w_case⟩
end start1
theorem witness_1 : WitnessClaimed_1 := ⟨start1.p0, start1.e0, start1.about1, start1.theMethod, start1.args0, start1.below0, start1.atStart⟩
end Jvm.Pilot.@@N@@
