import JvmDerived
import JvmDerived.Pilot.@@N@@Statement
import JvmDerived.Pilot.@@N@@Code
set_option linter.unusedVariables false
set_option linter.unusedSimpArgs false
@@BLOCK:NumsL.lean.txt@@
namespace Jvm.RoadKit
open Sem ClassFile Op Lib Jvm.Stand Jvm.Free Jvm.LawKit
section New
variable {p : Program} {l : Launch} {e : Env} {R : Room} {s : State} {m : MethodId} {args : Array Value} {below : List Frame} {meth : Method} {c : Code} {T : State} {locs : List Loc} {cells slots : Nat}
theorem retI (X : Stand p l e R s m args below meth c T locs cells slots) (hx : p.tables.exec = Jvm.exec) {pc : Nat} {Ls : Array Slot} {z : Int32} {rest : List Value} (hret : meth.sig.returnType = some .int) (hd : decode c.code pc = .ok (.ireturn, 1)) {fs : List Frame}
    (hl : ∀ (f : JFrame) (acts : List Action), f.method = m → f.locked = none → f.entered = [] → (doReturn e (T.setTop f) acts (some (.int z))).1 = T.setFrames fs) : Steps p.tables e below (T.setTop (mkF m pc Ls (.int z :: rest))) (T.setFrames fs) := by
  have hm' : T.vm.method? m = some meth := X.method'
  have hn : narrow .int (.int z) = .int z := rfl
  show Steps p.tables e below (T.setTop { method := m, pc := pc, locals := Ls, stack := _ :: rest, locked := none }) _
  jvm_step X.here [X.here.top, hx, hd, hm', hret, hn]
  first | (intro acts; rw [hl _ acts rfl rfl rfl]) | rw [hl _ _ rfl rfl rfl]
  exact Steps.refl _
end New
end Jvm.RoadKit
namespace Jvm.Pilot.@@N@@
open Jvm Jvm.ClassFile Sem Op Lib Jvm.Free Jvm.Stand Jvm.LawKit Jvm.RoadKit Bundle Jvm.Pilot.@@N@@.Jvm.D
theorem own_nz_J {x : Int64} (h : (0 : Int64) < x) : ¬ (x = (0 : Int64)) := by rintro rfl; exact absurd h (by decide)
theorem own_nz_I {x : Int32} (h : (0 : Int32) < x) : ¬ (x = (0 : Int32)) := by rintro rfl; exact absurd h (by decide)
theorem own_fld {s : State} {args : Array Value} {tt : Term} {a : Addr} {C n d : String} {k : Int32} (ev : tt.eval args s none [] s = some (.ref a)) (h : (Jvm.Cond.eq (.field tt C n d) (.int k)).value args s none s [] = some true) : Fld s s.heap a C n d (.int k) := by
  obtain ⟨u, v, hu, hv, k1, k2⟩ := cmp_v (Or.inl h)
  have hv' : v = .int k := (Option.some.inj (hv.symm.trans (Term.int_eval k)))
  subst hv'
  obtain ⟨z, rfl⟩ := k2
  have hz := gotT (Cond.eq_ints hu hv) h
  subst hz
  exact Fld.start (by rw [← fld_at ev]; exact hu)
def own_at (vs : List Int32) (j : Int32) : Int32 := vs.getD j.toNatClampNeg 0
def own_atL (vs : List Int64) (j : Int32) : Int64 := vs.getD j.toNatClampNeg 0
theorem own_getD (vs : List Int32) (j : Int32) : (vs.map Value.int).getD j.toNatClampNeg (.int (0 : Int32)) = .int (own_at vs j) := by
  unfold own_at
  generalize j.toNatClampNeg = k
  induction vs generalizing k with
  | nil => rfl
  | cons a t ih => cases k with
    | zero => rfl
    | succ k => simpa using ih k
theorem own_getDL (vs : List Int64) (j : Int32) : (vs.map Value.long).getD j.toNatClampNeg (.long (0 : Int64)) = .long (own_atL vs j) := by
  unfold own_atL
  generalize j.toNatClampNeg = k
  induction vs generalizing k with
  | nil => rfl
  | cons a t ih => cases k with
    | zero => rfl
    | succ k => simpa using ih k
theorem d1_0 : decode prog_27_method_1_code 0 = .ok (.aload_n 0, 1) := by decide +kernel
theorem d1_1 : decode prog_27_method_1_code 1 = .ok (.invokespecial 1, 3) := by decide +kernel
theorem d1_4 : decode prog_27_method_1_code 4 = .ok (.aload_n 0, 1) := by decide +kernel
theorem d1_5 : decode prog_27_method_1_code 5 = .ok (.bipush 8, 2) := by decide +kernel
theorem d1_7 : decode prog_27_method_1_code 7 = .ok (.newarray .int, 2) := by decide +kernel
theorem d1_9 : decode prog_27_method_1_code 9 = .ok (.putfield 7, 3) := by decide +kernel
theorem d1_12 : decode prog_27_method_1_code 12 = .ok (.aload_n 0, 1) := by decide +kernel
theorem d1_13 : decode prog_27_method_1_code 13 = .ok (.bipush 8, 2) := by decide +kernel
theorem d1_15 : decode prog_27_method_1_code 15 = .ok (.newarray .long, 2) := by decide +kernel
theorem d1_17 : decode prog_27_method_1_code 17 = .ok (.putfield 13, 3) := by decide +kernel
theorem d1_20 : decode prog_27_method_1_code 20 = .ok (.return_, 1) := by decide +kernel
theorem pn_1 : plainName "com/example/releve/releve/LinearExpression" = true := by first | (simp [plainName, overriddenIn]; done) | decide +kernel
theorem ef_1 (m : MethodId) (x0 : Addr) : entryFrame m #[(.ref x0)] 1 = mkF m 0 #[.val (.ref x0)] [] := by first | (simp [entryFrame, mkF, argsToLocals, Value.category]; done) | rfl
def Q1 (Z : State) (a1 : Addr) (u_variables_a1 : Value) (u_coefficients_a1 : Value) (u_constant_a1 : Value) (u_size_a1 : Value) (h0 : Heap) (n0 : Nat) (v : Option Value) (h : Heap) (L : List Loc) : Prop := ∃ (b3 : Addr) (k3 : ClassId), n0 ≤ b3 ∧ h0.size ≤ b3 ∧ ∃ (b17 : Addr) (k17 : ClassId), n0 ≤ b17 ∧ h0.size ≤ b17 ∧ b3 ≠ b17 ∧ v = none ∧ Fr n0 L ∧ Keep h0 h [a1] ∧ Exa Z h a1 "com/example/releve/releve/LinearExpression" ∧ Fld Z h a1 "com/example/releve/releve/LinearExpression" "variables" "[I" (.ref b3) ∧ Fld Z h a1 "com/example/releve/releve/LinearExpression" "coefficients" "[J" (.ref b17) ∧ Fld Z h a1 "com/example/releve/releve/LinearExpression" "constant" "J" u_constant_a1 ∧ Fld Z h a1 "com/example/releve/releve/LinearExpression" "size" "I" u_size_a1 ∧ Arv Z h b3 k3 .int (8 : Int32) ([(0 : Int32), (0 : Int32), (0 : Int32), (0 : Int32), (0 : Int32), (0 : Int32), (0 : Int32), (0 : Int32)].map Value.int) (.int (0 : Int32)) ∧ Arv Z h b17 k17 .long (8 : Int32) ([(0 : Int64), (0 : Int64), (0 : Int64), (0 : Int64), (0 : Int64), (0 : Int64), (0 : Int64), (0 : Int64)].map Value.long) (.long (0 : Int64))
set_option maxRecDepth 65536 in
set_option maxHeartbeats 40000000 in
theorem rm1 (l : Launch) (Z : State) (a0 : Array Value) (hw : ∀ d ∈ tables_1, d.before a0 Z = true) (ws : List Jvm.Cond) (a1 : Addr) (u_variables_a1 : Value) (u_coefficients_a1 : Value) (u_constant_a1 : Value) (u_size_a1 : Value) (h0 : Heap) (n0 : Nat) (Z0 : n0 ≤ h0.size) (E_a1 : Exa Z h0 a1 "com/example/releve/releve/LinearExpression") (F_variables_a1 : Fld Z h0 a1 "com/example/releve/releve/LinearExpression" "variables" "[I" u_variables_a1) (F_coefficients_a1 : Fld Z h0 a1 "com/example/releve/releve/LinearExpression" "coefficients" "[J" u_coefficients_a1) (F_constant_a1 : Fld Z h0 a1 "com/example/releve/releve/LinearExpression" "constant" "J" u_constant_a1) (F_size_a1 : Fld Z h0 a1 "com/example/releve/releve/LinearExpression" "size" "I" u_size_a1) (g_a1 : n0 ≤ a1) :
    MetFree l (⟨"com/example/releve/releve/LinearExpression", "<init>", "()V"⟩ : MethodName) (head1 (Jvm.Cond.code (⟨"com/example/releve/releve/LinearExpression", "<init>", "()V"⟩ : MethodName) prog_27_method_1_code 1 none :: ws) ({ frames := 1, cells := 2, slots := 16, locals := 12 } : Room)) (fun a U => a = #[(.ref a1)] ∧ Z.Warmed39 U.vm ∧ U.heap = h0) (fun _ _ _ _ _ => True) (fun _ U o U' => ∃ v L, o = .returned v ∧ Q1 Z a1 u_variables_a1 u_coefficients_a1 u_constant_a1 u_size_a1 h0 n0 v U'.heap L ∧ FrameEnd U o U' L ({ frames := 1, cells := 2, slots := 16, locals := 12 } : Room).cells ({ frames := 1, cells := 2, slots := 16, locals := 12 } : Room).slots) := by
  refine MetFree.of_bodySF (plainFor_of_name pn_1) hisR ?_
  intro p e s m args below meth c s₁ Bd hml0 hP hK
  obtain ⟨rfl, hZ, hh⟩ := hP
  have hx := Bd.exec
  have hby := Bd.bytes
  have hml : c.maxLocals = 1 := hml0
  have hown : s.vm.findClass "com/example/releve/releve/LinearExpression" = some m.cls := findClass_of_methodNamed Bd.named
  have hnm := (name_of_methodNamed Bd.named Bd.method).1
  have X0 : Stand p l e ({ frames := 1, cells := 2, slots := 16, locals := 12 } : Room) s m #[(.ref a1)] below meth c s₁ [] 0 0 := Stand.of_body Bd
  have e0 : s₁.heap = h0 := by rw [← hh, Bd.state]; rfl
  have N0 := Fr.nil n0
  have pre0 : ∀ t, Steps p.tables e below (s₁.setTop (mkF m 0 #[.val (.ref a1)] [])) t → Steps p.tables e below (s₁.setTop (entryFrame m #[(.ref a1)] 1)) t := fun t k => castTop (ef_1 m a1) k
  obtain ⟨T2, X2, e2, st2⟩ := initO X0 hx hZ hown (hw _ (List.mem_of_getElem? (i := 6) rfl)) (hw _ (List.mem_of_getElem? (i := 7) rfl)) (hw _ (List.mem_of_getElem? (i := 8) rfl)) e0 (g := (mkF m 1 #[.val (.ref a1)] [(.ref a1)])) rfl (by rw [hml]; rfl) rfl (hb hby d1_1) (by decide) (W := 0) (by show 2 * 0 + _ ≤ _; exact Nat.le_of_eq rfl) (by decide)
  obtain ⟨T3, h3, k3, X3, e3, E3, A3, st3⟩ := newP X2 hx hZ (hw _ (List.mem_of_getElem? (i := 9) rfl)) e2 (g := (mkF m 7 #[.val (.ref a1)] [(.int (8 : Int32)), (.ref a1)])) rfl (hb hby d1_7) rfl (by decide) (cap := 8) (by decide) (by decide) (by decide) (by decide)
  obtain ⟨b3, g3⟩ : ∃ z, z = h0.size := ⟨_, rfl⟩
  rw [← g3] at A3 st3
  have g_b3 : n0 ≤ b3 := Nat.le_trans Z0 (Nat.le_of_eq g3.symm)
  have sz_b3 : h0.size ≤ b3 := Nat.le_trans (Keep.refl h0 [a1]).1 (Nat.le_of_eq g3.symm)
  have K3 : Keep h0 h3 [a1] := (Keep.refl h0 [a1]).ext E3
  have V_b3 : Arv Z h3 b3 k3 .int (8 : Int32) ([(0 : Int32), (0 : Int32), (0 : Int32), (0 : Int32), (0 : Int32), (0 : Int32), (0 : Int32), (0 : Int32)].map Value.int) (.int (0 : Int32)) := (Arv.new A3 (by decide)).pad (pad_rep [] (.int (0 : Int32)) 8)
  have ne_a1_b3 : a1 ≠ b3 := Nat.ne_of_lt (Nat.lt_of_lt_of_le E_a1.lt (Nat.le_of_eq g3.symm))
  have F4 := (F_variables_a1.ext E3)
  have F5 := (F_coefficients_a1.ext E3)
  have F6 := (F_constant_a1.ext E3)
  have F7 := (F_size_a1.ext E3)
  have Ex8 := (E_a1.ext E3)
  have Zs9 : n0 ≤ h3.size := (Nat.le_trans Z0 E3.1)
  obtain ⟨T10, h10, X10, e10, W10, st10⟩ := putF X3 hx hZ hown (host := "") (Or.inl (hw _ (List.mem_of_getElem? (i := 10) rfl))) Via.refl e3 F4 Ex8 (Or.inl (hw _ (List.mem_of_getElem? (i := 11) rfl))) (hw _ (List.mem_of_getElem? (i := 1) rfl)) (ty := (.array .int)) (by decide) rfl rfl (g := (mkF m 9 #[.val (.ref a1)] [(.ref b3), (.ref a1)])) rfl rfl (hb hby d1_9)
  have Fw10 := F4.same W10
  have N10 := Fr.snoc X10 N0 g_a1
  have K10 : Keep h0 h10 [a1] := K3.wr W10 (Or.inl (List.mem_of_getElem? (i := 0) rfl))
  have F11 := (F5.other W10 (Or.inr (slot_ne (Or.inl (hw _ (List.mem_of_getElem? (i := 14) rfl))) (Or.inl (hw _ (List.mem_of_getElem? (i := 11) rfl))) (by decide) (t := (.array .long)) (t' := (.array .int)) (by decide) (by decide))))
  have F12 := (F6.other W10 (Or.inr (slot_ne (Or.inl (hw _ (List.mem_of_getElem? (i := 21) rfl))) (Or.inl (hw _ (List.mem_of_getElem? (i := 11) rfl))) (by decide) (t := .long) (t' := (.array .int)) (by decide) (by decide))))
  have F13 := (F7.other W10 (Or.inr (slot_ne (Or.inl (hw _ (List.mem_of_getElem? (i := 37) rfl))) (Or.inl (hw _ (List.mem_of_getElem? (i := 11) rfl))) (by decide) (t := .int) (t' := (.array .int)) (by decide) (by decide))))
  have Ex14 := (Ex8.wr W10)
  have Av15 := (V_b3.other W10 (Ne.symm ne_a1_b3))
  have Zs16 : n0 ≤ h10.size := (Nat.le_trans Zs9 (Keep.of_wr W10).1)
  obtain ⟨T17, h17, k17, X17, e17, E17, A17, st17⟩ := newP X10 hx hZ (hw _ (List.mem_of_getElem? (i := 12) rfl)) e10 (g := (mkF m 15 #[.val (.ref a1)] [(.int (8 : Int32)), (.ref a1)])) rfl (hb hby d1_15) rfl (by decide) (cap := 8) (by decide) (by decide) (by decide) (by decide)
  obtain ⟨b17, g17⟩ : ∃ z, z = h10.size := ⟨_, rfl⟩
  rw [← g17] at A17 st17
  have g_b17 : n0 ≤ b17 := Nat.le_trans Zs16 (Nat.le_of_eq g17.symm)
  have sz_b17 : h0.size ≤ b17 := Nat.le_trans K10.1 (Nat.le_of_eq g17.symm)
  have K17 : Keep h0 h17 [a1] := K10.ext E17
  have V_b17 : Arv Z h17 b17 k17 .long (8 : Int32) ([(0 : Int64), (0 : Int64), (0 : Int64), (0 : Int64), (0 : Int64), (0 : Int64), (0 : Int64), (0 : Int64)].map Value.long) (.long (0 : Int64)) := (Arv.new A17 (by decide)).pad (pad_rep [] (.long (0 : Int64)) 8)
  have ne_a1_b17 : a1 ≠ b17 := Nat.ne_of_lt (Nat.lt_of_lt_of_le Ex14.lt (Nat.le_of_eq g17.symm))
  have ne_b3_b17 : b3 ≠ b17 := Nat.ne_of_lt (Nat.lt_of_lt_of_le Av15.lt (Nat.le_of_eq g17.symm))
  have F18 := (Fw10.ext E17)
  have F19 := (F11.ext E17)
  have F20 := (F12.ext E17)
  have F21 := (F13.ext E17)
  have Ex22 := (Ex14.ext E17)
  have Av23 := (Av15.ext E17)
  have Zs24 : n0 ≤ h17.size := (Nat.le_trans Zs16 E17.1)
  obtain ⟨T25, h25, X25, e25, W25, st25⟩ := putF X17 hx hZ hown (host := "") (Or.inl (hw _ (List.mem_of_getElem? (i := 13) rfl))) Via.refl e17 F19 Ex22 (Or.inl (hw _ (List.mem_of_getElem? (i := 14) rfl))) (hw _ (List.mem_of_getElem? (i := 1) rfl)) (ty := (.array .long)) (by decide) rfl rfl (g := (mkF m 17 #[.val (.ref a1)] [(.ref b17), (.ref a1)])) rfl rfl (hb hby d1_17)
  have Fw25 := F19.same W25
  have N25 := Fr.snoc X25 N10 g_a1
  have K25 : Keep h0 h25 [a1] := K17.wr W25 (Or.inl (List.mem_of_getElem? (i := 0) rfl))
  obtain ⟨fs, hr, hrun, hended, hW, hsame⟩ := X25.leave (v := none) (fun _ => rfl) (by first | exact BodyLoose.notSynchronized Bd | exact Body.notSynchronized Bd)
  refine ⟨_, _, pre0 _ ?_, hrun, hended, _, _, rfl, ?_, ⟨_, rfl⟩, hW, hsame.mono (by decide) (by decide)⟩
  · show Steps p.tables e below (s₁.setTop (mkF m 0 #[.val (.ref a1)] [])) _
    refine XS.aloadN X0.here hx rfl (hb hby d1_0) rfl rfl ?_
    show Steps p.tables e below (s₁.setTop (mkF m 1 _ [(.ref a1)])) _
    refine st2 _ ?_
    show Steps p.tables e below (T2.setTop (mkF m 4 _ [])) _
    refine XS.aloadN X2.here hx rfl (hb hby d1_4) rfl rfl ?_
    show Steps p.tables e below (T2.setTop (mkF m 5 _ [(.ref a1)])) _
    refine XS.bipush X2.here hx rfl (hb hby d1_5) ?_
    show Steps p.tables e below (T2.setTop (mkF m 7 _ [(.int (8 : Int32)), (.ref a1)])) _
    refine st3 _ ?_
    show Steps p.tables e below (T3.setTop (mkF m 9 _ [(.ref b3), (.ref a1)])) _
    refine st10 _ ?_
    show Steps p.tables e below (T10.setTop (mkF m 12 _ [])) _
    refine XS.aloadN X10.here hx rfl (hb hby d1_12) rfl rfl ?_
    show Steps p.tables e below (T10.setTop (mkF m 13 _ [(.ref a1)])) _
    refine XS.bipush X10.here hx rfl (hb hby d1_13) ?_
    show Steps p.tables e below (T10.setTop (mkF m 15 _ [(.int (8 : Int32)), (.ref a1)])) _
    refine st17 _ ?_
    show Steps p.tables e below (T17.setTop (mkF m 17 _ [(.ref b17), (.ref a1)])) _
    refine st25 _ ?_
    show Steps p.tables e below (T25.setTop (mkF m 20 #[.val (.ref a1)] [])) _
    exact X25.returnOut hx Bd.returns (hb hby d1_20) hr
  · show Q1 Z a1 u_variables_a1 u_coefficients_a1 u_constant_a1 u_size_a1 h0 n0 _ T25.heap _
    rw [e25]
    have F26 := (F18.other W25 (Or.inr (slot_ne (Or.inl (hw _ (List.mem_of_getElem? (i := 11) rfl))) (Or.inl (hw _ (List.mem_of_getElem? (i := 14) rfl))) (by decide) (t := (.array .int)) (t' := (.array .long)) (by decide) (by decide))))
    have F27 := (F20.other W25 (Or.inr (slot_ne (Or.inl (hw _ (List.mem_of_getElem? (i := 21) rfl))) (Or.inl (hw _ (List.mem_of_getElem? (i := 14) rfl))) (by decide) (t := .long) (t' := (.array .long)) (by decide) (by decide))))
    have F28 := (F21.other W25 (Or.inr (slot_ne (Or.inl (hw _ (List.mem_of_getElem? (i := 37) rfl))) (Or.inl (hw _ (List.mem_of_getElem? (i := 14) rfl))) (by decide) (t := .int) (t' := (.array .long)) (by decide) (by decide))))
    have Ex29 := (Ex22.wr W25)
    have Av30 := (Av23.other W25 (Ne.symm ne_a1_b3))
    have Av31 := (V_b17.other W25 (Ne.symm ne_a1_b17))
    have Zs32 : n0 ≤ h25.size := (Nat.le_trans Zs24 (Keep.of_wr W25).1)
    exact ⟨b3, k3, g_b3, sz_b3, b17, k17, g_b17, sz_b17, ne_b3_b17, rfl, N25, K25, Ex29, F26, Fw25, F27, F28, Av30, Av31⟩
theorem d7_0 : decode prog_27_method_2_code 0 = .ok (.aload_n 0, 1) := by decide +kernel
theorem d7_1 : decode prog_27_method_2_code 1 = .ok (.getfield 17, 3) := by decide +kernel
theorem d7_4 : decode prog_27_method_2_code 4 = .ok (.aload_n 0, 1) := by decide +kernel
theorem d7_5 : decode prog_27_method_2_code 5 = .ok (.getfield 7, 3) := by decide +kernel
theorem d7_8 : decode prog_27_method_2_code 8 = .ok (.arraylength, 1) := by decide +kernel
theorem d7_9 : decode prog_27_method_2_code 9 = .ok (.if_icmp .ne 37, 3) := by decide +kernel
theorem d7_46 : decode prog_27_method_2_code 46 = .ok (.aload_n 0, 1) := by decide +kernel
theorem d7_47 : decode prog_27_method_2_code 47 = .ok (.getfield 7, 3) := by decide +kernel
theorem d7_50 : decode prog_27_method_2_code 50 = .ok (.aload_n 0, 1) := by decide +kernel
theorem d7_51 : decode prog_27_method_2_code 51 = .ok (.getfield 17, 3) := by decide +kernel
theorem d7_54 : decode prog_27_method_2_code 54 = .ok (.iload_n 1, 1) := by decide +kernel
theorem d7_55 : decode prog_27_method_2_code 55 = .ok (.iastore, 1) := by decide +kernel
theorem d7_56 : decode prog_27_method_2_code 56 = .ok (.aload_n 0, 1) := by decide +kernel
theorem d7_57 : decode prog_27_method_2_code 57 = .ok (.getfield 13, 3) := by decide +kernel
theorem d7_60 : decode prog_27_method_2_code 60 = .ok (.aload_n 0, 1) := by decide +kernel
theorem d7_61 : decode prog_27_method_2_code 61 = .ok (.getfield 17, 3) := by decide +kernel
theorem d7_64 : decode prog_27_method_2_code 64 = .ok (.lload_n 2, 1) := by decide +kernel
theorem d7_65 : decode prog_27_method_2_code 65 = .ok (.lastore, 1) := by decide +kernel
theorem d7_66 : decode prog_27_method_2_code 66 = .ok (.aload_n 0, 1) := by decide +kernel
theorem d7_67 : decode prog_27_method_2_code 67 = .ok (.dup, 1) := by decide +kernel
theorem d7_68 : decode prog_27_method_2_code 68 = .ok (.getfield 17, 3) := by decide +kernel
theorem d7_71 : decode prog_27_method_2_code 71 = .ok (.iconst 1, 1) := by decide +kernel
theorem d7_72 : decode prog_27_method_2_code 72 = .ok (.iadd, 1) := by decide +kernel
theorem d7_73 : decode prog_27_method_2_code 73 = .ok (.putfield 17, 3) := by decide +kernel
theorem d7_76 : decode prog_27_method_2_code 76 = .ok (.aload_n 0, 1) := by decide +kernel
theorem d7_77 : decode prog_27_method_2_code 77 = .ok (.areturn, 1) := by decide +kernel
theorem pn_7 : plainName "com/example/releve/releve/LinearExpression" = true := by first | (simp [plainName, overriddenIn]; done) | decide +kernel
theorem ef_7 (m : MethodId) (x0 : Addr) (x1 : Int32) (x2 : Int64) : entryFrame m #[(.ref x0), (.int x1), (.long x2)] 4 = mkF m 0 #[.val (.ref x0), .val (.int x1), .val (.long x2), .second] [] := by first | (simp [entryFrame, mkF, argsToLocals, Value.category]; done) | rfl
def Q7 (Z : State) (a1 : Addr) (p2 : Int32) (q3 : Int64) (w_variables_a1 : Addr) (w_coefficients_a1 : Addr) (u_constant_a1 : Value) (k_w_variables_a1 : ClassId) (k_w_coefficients_a1 : ClassId) (h0 : Heap) (n0 : Nat) (v : Option Value) (h : Heap) (L : List Loc) : Prop := v = some (.ref a1) ∧ Fr n0 L ∧ Keep h0 h [w_variables_a1, w_coefficients_a1, a1] ∧ Exa Z h a1 "com/example/releve/releve/LinearExpression" ∧ Fld Z h a1 "com/example/releve/releve/LinearExpression" "variables" "[I" (.ref w_variables_a1) ∧ Fld Z h a1 "com/example/releve/releve/LinearExpression" "coefficients" "[J" (.ref w_coefficients_a1) ∧ Fld Z h a1 "com/example/releve/releve/LinearExpression" "constant" "J" u_constant_a1 ∧ Fld Z h a1 "com/example/releve/releve/LinearExpression" "size" "I" (.int ((0 : Int32) + (1 : Int32))) ∧ Arv Z h w_variables_a1 k_w_variables_a1 .int (8 : Int32) ([p2, (0 : Int32), (0 : Int32), (0 : Int32), (0 : Int32), (0 : Int32), (0 : Int32), (0 : Int32)].map Value.int) (.int (0 : Int32)) ∧ Arv Z h w_coefficients_a1 k_w_coefficients_a1 .long (8 : Int32) ([q3, (0 : Int64), (0 : Int64), (0 : Int64), (0 : Int64), (0 : Int64), (0 : Int64), (0 : Int64)].map Value.long) (.long (0 : Int64))
set_option maxRecDepth 65536 in
set_option maxHeartbeats 40000000 in
theorem rm7 (l : Launch) (Z : State) (a0 : Array Value) (hw : ∀ d ∈ tables_1, d.before a0 Z = true) (ws : List Jvm.Cond) (a1 : Addr) (p2 : Int32) (q3 : Int64) (w_variables_a1 : Addr) (w_coefficients_a1 : Addr) (u_constant_a1 : Value) (k_w_variables_a1 : ClassId) (k_w_coefficients_a1 : ClassId) (h0 : Heap) (n0 : Nat) (Z0 : n0 ≤ h0.size) (E_a1 : Exa Z h0 a1 "com/example/releve/releve/LinearExpression") (F_variables_a1 : Fld Z h0 a1 "com/example/releve/releve/LinearExpression" "variables" "[I" (.ref w_variables_a1)) (F_coefficients_a1 : Fld Z h0 a1 "com/example/releve/releve/LinearExpression" "coefficients" "[J" (.ref w_coefficients_a1)) (F_constant_a1 : Fld Z h0 a1 "com/example/releve/releve/LinearExpression" "constant" "J" u_constant_a1) (F_size_a1 : Fld Z h0 a1 "com/example/releve/releve/LinearExpression" "size" "I" (.int (0 : Int32))) (V_w_variables_a1 : Arv Z h0 w_variables_a1 k_w_variables_a1 .int (8 : Int32) ([(0 : Int32), (0 : Int32), (0 : Int32), (0 : Int32), (0 : Int32), (0 : Int32), (0 : Int32), (0 : Int32)].map Value.int) (.int (0 : Int32))) (V_w_coefficients_a1 : Arv Z h0 w_coefficients_a1 k_w_coefficients_a1 .long (8 : Int32) ([(0 : Int64), (0 : Int64), (0 : Int64), (0 : Int64), (0 : Int64), (0 : Int64), (0 : Int64), (0 : Int64)].map Value.long) (.long (0 : Int64))) (ne_a1_w_variables_a1 : a1 ≠ w_variables_a1) (ne_w_coefficients_a1_w_variables_a1 : w_coefficients_a1 ≠ w_variables_a1) (g_w_variables_a1 : n0 ≤ w_variables_a1) (ne_a1_w_coefficients_a1 : a1 ≠ w_coefficients_a1) (g_w_coefficients_a1 : n0 ≤ w_coefficients_a1) (g_a1 : n0 ≤ a1) :
    MetFree l (⟨"com/example/releve/releve/LinearExpression", "plus", "(IJ)Lcom/example/releve/releve/LinearExpression;"⟩ : MethodName) (head1 (Jvm.Cond.code (⟨"com/example/releve/releve/LinearExpression", "plus", "(IJ)Lcom/example/releve/releve/LinearExpression;"⟩ : MethodName) prog_27_method_2_code 4 (some (.object "com/example/releve/releve/LinearExpression")) :: ws) ({ frames := 0, cells := 0, slots := 0, locals := 0 } : Room)) (fun a U => a = #[(.ref a1), (.int p2), (.long q3)] ∧ Z.Warmed39 U.vm ∧ U.heap = h0) (fun _ _ _ _ _ => True) (fun _ U o U' => ∃ v L, o = .returned v ∧ Q7 Z a1 p2 q3 w_variables_a1 w_coefficients_a1 u_constant_a1 k_w_variables_a1 k_w_coefficients_a1 h0 n0 v U'.heap L ∧ FrameEnd U o U' L ({ frames := 0, cells := 0, slots := 0, locals := 0 } : Room).cells ({ frames := 0, cells := 0, slots := 0, locals := 0 } : Room).slots) := by
  refine MetFree.of_bodySF (plainFor_of_name pn_7) hisR ?_
  intro p e s m args below meth c s₁ Bd hml0 hP hK
  obtain ⟨rfl, hZ, hh⟩ := hP
  have hx := Bd.exec
  have hby := Bd.bytes
  have hml : c.maxLocals = 4 := hml0
  have hown : s.vm.findClass "com/example/releve/releve/LinearExpression" = some m.cls := findClass_of_methodNamed Bd.named
  have hnm := (name_of_methodNamed Bd.named Bd.method).1
  have X0 : Stand p l e ({ frames := 0, cells := 0, slots := 0, locals := 0 } : Room) s m #[(.ref a1), (.int p2), (.long q3)] below meth c s₁ [] 0 0 := Stand.of_body Bd
  have e0 : s₁.heap = h0 := by rw [← hh, Bd.state]; rfl
  have N0 := Fr.nil n0
  have pre0 : ∀ t, Steps p.tables e below (s₁.setTop (mkF m 0 #[.val (.ref a1), .val (.int p2), .val (.long q3), .second] [])) t → Steps p.tables e below (s₁.setTop (entryFrame m #[(.ref a1), (.int p2), (.long q3)] 4)) t := fun t k => castTop (ef_7 m a1 p2 q3) k
  obtain ⟨T4, X4, e4, st4⟩ := getF X0 hx hZ hown (host := "") (Or.inl (hw _ (List.mem_of_getElem? (i := 36) rfl))) Via.refl e0 F_size_a1 (g := (mkF m 1 #[.val (.ref a1), .val (.int p2), .val (.long q3), .second] [(.ref a1)])) rfl rfl (hb hby d7_1)
  obtain ⟨T5, X5, e5, st5⟩ := getF X4 hx hZ hown (host := "") (Or.inl (hw _ (List.mem_of_getElem? (i := 10) rfl))) Via.refl e4 F_variables_a1 (g := (mkF m 5 #[.val (.ref a1), .val (.int p2), .val (.long q3), .second] [(.ref a1), (.int (0 : Int32))])) rfl rfl (hb hby d7_5)
  obtain ⟨cl6, Ar6, qq6, Ss6, Nn6, Hh6, Gg6⟩ := id V_w_variables_a1
  obtain ⟨T7, X7, e7, st7⟩ := getF X5 hx hZ hown (host := "") (Or.inl (hw _ (List.mem_of_getElem? (i := 10) rfl))) Via.refl e5 F_variables_a1 (g := (mkF m 47 #[.val (.ref a1), .val (.int p2), .val (.long q3), .second] [(.ref a1)])) rfl rfl (hb hby d7_47)
  obtain ⟨T8, X8, e8, st8⟩ := getF X7 hx hZ hown (host := "") (Or.inl (hw _ (List.mem_of_getElem? (i := 36) rfl))) Via.refl e7 F_size_a1 (g := (mkF m 51 #[.val (.ref a1), .val (.int p2), .val (.long q3), .second] [(.ref a1), (.ref w_variables_a1)])) rfl rfl (hb hby d7_51)
  obtain ⟨cl9, Ar9, qq9, Ss9, Nn9, Hh9, Gg9⟩ := id V_w_variables_a1
  have hin9 : ¬ ((0 : Int32) < 0 ∨ cl9.slots.size ≤ ((0 : Int32)).toNatClampNeg) := inb_of Ss9 ⟨by decide, by decide⟩
  obtain ⟨T9, h9, X9, e9, W9, st9⟩ := stI X8 hx hZ e8 Ar9 (j := (0 : Int32)) hin9 (g := (mkF m 55 #[.val (.ref a1), .val (.int p2), .val (.long q3), .second] [(.int p2), (.int (0 : Int32)), (.ref w_variables_a1)])) rfl rfl (hb hby d7_55)
  have V9 : Arv Z h9 w_variables_a1 k_w_variables_a1 .int (8 : Int32) ([p2, (0 : Int32), (0 : Int32), (0 : Int32), (0 : Int32), (0 : Int32), (0 : Int32), (0 : Int32)].map Value.int) (.int (0 : Int32)) := Arv.set Ar9 qq9 Ss9 Nn9 Hh9 Gg9 rfl W9 0 rfl (Nat.le_of_ble_eq_true rfl)
  have N9 := Fr.snoc X9 N0 g_w_variables_a1
  have K9 : Keep h0 h9 [w_variables_a1, w_coefficients_a1, a1] := (Keep.refl h0 [w_variables_a1, w_coefficients_a1, a1]).wr W9 (Or.inl (List.mem_of_getElem? (i := 0) rfl))
  obtain ⟨T10, X10, e10, st10⟩ := getF X9 hx hZ hown (host := "") (Or.inl (hw _ (List.mem_of_getElem? (i := 13) rfl))) Via.refl e9 (F_coefficients_a1.other W9 (Or.inl ne_a1_w_variables_a1)) (g := (mkF m 57 #[.val (.ref a1), .val (.int p2), .val (.long q3), .second] [(.ref a1)])) rfl rfl (hb hby d7_57)
  obtain ⟨T11, X11, e11, st11⟩ := getF X10 hx hZ hown (host := "") (Or.inl (hw _ (List.mem_of_getElem? (i := 36) rfl))) Via.refl e10 (F_size_a1.other W9 (Or.inl ne_a1_w_variables_a1)) (g := (mkF m 61 #[.val (.ref a1), .val (.int p2), .val (.long q3), .second] [(.ref a1), (.ref w_coefficients_a1)])) rfl rfl (hb hby d7_61)
  have F12 := (F_variables_a1.other W9 (Or.inl ne_a1_w_variables_a1))
  have F13 := (F_coefficients_a1.other W9 (Or.inl ne_a1_w_variables_a1))
  have F14 := (F_constant_a1.other W9 (Or.inl ne_a1_w_variables_a1))
  have F15 := (F_size_a1.other W9 (Or.inl ne_a1_w_variables_a1))
  have Ex16 := (E_a1.wr W9)
  have Av17 := (V_w_coefficients_a1.other W9 ne_w_coefficients_a1_w_variables_a1)
  have Zs18 : n0 ≤ h9.size := (Nat.le_trans Z0 (Keep.of_wr W9).1)
  obtain ⟨cl19, Ar19, qq19, Ss19, Nn19, Hh19, Gg19⟩ := id Av17
  have hin19 : ¬ ((0 : Int32) < 0 ∨ cl19.slots.size ≤ ((0 : Int32)).toNatClampNeg) := inb_of Ss19 ⟨by decide, by decide⟩
  obtain ⟨T19, h19, X19, e19, W19, st19⟩ := stJ X11 hx hZ e11 Ar19 (j := (0 : Int32)) hin19 (g := (mkF m 65 #[.val (.ref a1), .val (.int p2), .val (.long q3), .second] [(.long q3), (.int (0 : Int32)), (.ref w_coefficients_a1)])) rfl rfl (hb hby d7_65)
  have V19 : Arv Z h19 w_coefficients_a1 k_w_coefficients_a1 .long (8 : Int32) ([q3, (0 : Int64), (0 : Int64), (0 : Int64), (0 : Int64), (0 : Int64), (0 : Int64), (0 : Int64)].map Value.long) (.long (0 : Int64)) := Arv.set Ar19 qq19 Ss19 Nn19 Hh19 Gg19 rfl W19 0 rfl (Nat.le_of_ble_eq_true rfl)
  have N19 := Fr.snoc X19 N9 g_w_coefficients_a1
  have K19 : Keep h0 h19 [w_variables_a1, w_coefficients_a1, a1] := K9.wr W19 (Or.inl (List.mem_of_getElem? (i := 1) rfl))
  obtain ⟨T20, X20, e20, st20⟩ := getF X19 hx hZ hown (host := "") (Or.inl (hw _ (List.mem_of_getElem? (i := 36) rfl))) Via.refl e19 (F15.other W19 (Or.inl ne_a1_w_coefficients_a1)) (g := (mkF m 68 #[.val (.ref a1), .val (.int p2), .val (.long q3), .second] [(.ref a1), (.ref a1)])) rfl rfl (hb hby d7_68)
  have F21 := (F12.other W19 (Or.inl ne_a1_w_coefficients_a1))
  have F22 := (F13.other W19 (Or.inl ne_a1_w_coefficients_a1))
  have F23 := (F14.other W19 (Or.inl ne_a1_w_coefficients_a1))
  have F24 := (F15.other W19 (Or.inl ne_a1_w_coefficients_a1))
  have Ex25 := (Ex16.wr W19)
  have Av26 := (V9.other W19 (Ne.symm ne_w_coefficients_a1_w_variables_a1))
  have Zs27 : n0 ≤ h19.size := (Nat.le_trans Zs18 (Keep.of_wr W19).1)
  obtain ⟨T28, h28, X28, e28, W28, st28⟩ := putF X20 hx hZ hown (host := "") (Or.inl (hw _ (List.mem_of_getElem? (i := 36) rfl))) Via.refl e20 F24 Ex25 (Or.inl (hw _ (List.mem_of_getElem? (i := 37) rfl))) (hw _ (List.mem_of_getElem? (i := 1) rfl)) (ty := .int) (by decide) rfl rfl (g := (mkF m 73 #[.val (.ref a1), .val (.int p2), .val (.long q3), .second] [(.int ((0 : Int32) + (1 : Int32))), (.ref a1)])) rfl rfl (hb hby d7_73)
  have Fw28 := F24.same W28
  have N28 := Fr.snoc X28 N19 g_a1
  have K28 : Keep h0 h28 [w_variables_a1, w_coefficients_a1, a1] := K19.wr W28 (Or.inl (List.mem_of_getElem? (i := 2) rfl))
  obtain ⟨fs, hr, hrun, hended, hW, hsame⟩ := X28.leave (v := some (.ref a1)) (fun h => by rw [Bd.returns] at h; cases h) (by first | exact BodyLoose.notSynchronized Bd | exact Body.notSynchronized Bd)
  refine ⟨_, _, pre0 _ ?_, hrun, hended, _, _, rfl, ?_, ⟨_, rfl⟩, hW, hsame.mono (by decide) (by decide)⟩
  · show Steps p.tables e below (s₁.setTop (mkF m 0 #[.val (.ref a1), .val (.int p2), .val (.long q3), .second] [])) _
    refine XS.aloadN X0.here hx rfl (hb hby d7_0) rfl rfl ?_
    show Steps p.tables e below (s₁.setTop (mkF m 1 _ [(.ref a1)])) _
    refine st4 _ ?_
    show Steps p.tables e below (T4.setTop (mkF m 4 _ [(.int (0 : Int32))])) _
    refine XS.aloadN X4.here hx rfl (hb hby d7_4) rfl rfl ?_
    show Steps p.tables e below (T4.setTop (mkF m 5 _ [(.ref a1), (.int (0 : Int32))])) _
    refine st5 _ ?_
    show Steps p.tables e below (T5.setTop (mkF m 8 _ [(.ref w_variables_a1), (.int (0 : Int32))])) _
    refine X5.arraylength hx (by rw [e5]; exact Ar6.1) (State.isArrayOf_alike hZ.alike Ar6.2.1) (g := (mkF m 8 #[.val (.ref a1), .val (.int p2), .val (.long q3), .second] [(.ref w_variables_a1), (.int (0 : Int32))])) rfl rfl (hb hby d7_8) _ ?_
    rw [len_of Ss6 Nn6]
    show Steps p.tables e below (T5.setTop (mkF m 9 _ [(.int (8 : Int32)), (.int (0 : Int32))])) _
    refine XS.icmpYes X5.here hx rfl (pc0 := 9) (pc' := 46) rfl (hb hby d7_9) rfl (feq (by decide)).2 (by decide) (by decide) ?_
    show Steps p.tables e below (T5.setTop (mkF m 46 _ [])) _
    refine XS.aloadN X5.here hx rfl (hb hby d7_46) rfl rfl ?_
    show Steps p.tables e below (T5.setTop (mkF m 47 _ [(.ref a1)])) _
    refine st7 _ ?_
    show Steps p.tables e below (T7.setTop (mkF m 50 _ [(.ref w_variables_a1)])) _
    refine XS.aloadN X7.here hx rfl (hb hby d7_50) rfl rfl ?_
    show Steps p.tables e below (T7.setTop (mkF m 51 _ [(.ref a1), (.ref w_variables_a1)])) _
    refine st8 _ ?_
    show Steps p.tables e below (T8.setTop (mkF m 54 _ [(.int (0 : Int32)), (.ref w_variables_a1)])) _
    refine XS.iloadN X8.here hx rfl (hb hby d7_54) rfl ?_
    show Steps p.tables e below (T8.setTop (mkF m 55 _ [(.int p2), (.int (0 : Int32)), (.ref w_variables_a1)])) _
    refine st9 _ ?_
    show Steps p.tables e below (T9.setTop (mkF m 56 _ [])) _
    refine XS.aloadN X9.here hx rfl (hb hby d7_56) rfl rfl ?_
    show Steps p.tables e below (T9.setTop (mkF m 57 _ [(.ref a1)])) _
    refine st10 _ ?_
    show Steps p.tables e below (T10.setTop (mkF m 60 _ [(.ref w_coefficients_a1)])) _
    refine XS.aloadN X10.here hx rfl (hb hby d7_60) rfl rfl ?_
    show Steps p.tables e below (T10.setTop (mkF m 61 _ [(.ref a1), (.ref w_coefficients_a1)])) _
    refine st11 _ ?_
    show Steps p.tables e below (T11.setTop (mkF m 64 _ [(.int (0 : Int32)), (.ref w_coefficients_a1)])) _
    refine XS.lloadN X11.here hx rfl (hb hby d7_64) rfl ?_
    show Steps p.tables e below (T11.setTop (mkF m 65 _ [(.long q3), (.int (0 : Int32)), (.ref w_coefficients_a1)])) _
    refine st19 _ ?_
    show Steps p.tables e below (T19.setTop (mkF m 66 _ [])) _
    refine XS.aloadN X19.here hx rfl (hb hby d7_66) rfl rfl ?_
    show Steps p.tables e below (T19.setTop (mkF m 67 _ [(.ref a1)])) _
    refine XS.dup X19.here hx rfl (hb hby d7_67) rfl rfl ?_
    show Steps p.tables e below (T19.setTop (mkF m 68 _ [(.ref a1), (.ref a1)])) _
    refine st20 _ ?_
    show Steps p.tables e below (T20.setTop (mkF m 71 _ [(.int (0 : Int32)), (.ref a1)])) _
    refine XS.iconst X20.here hx rfl (hb hby d7_71) ?_
    show Steps p.tables e below (T20.setTop (mkF m 72 _ [(.int (1 : Int32)), (.int (0 : Int32)), (.ref a1)])) _
    refine XS.iadd X20.here hx rfl (hb hby d7_72) rfl ?_
    show Steps p.tables e below (T20.setTop (mkF m 73 _ [(.int ((0 : Int32) + (1 : Int32))), (.ref a1)])) _
    refine st28 _ ?_
    show Steps p.tables e below (T28.setTop (mkF m 76 _ [])) _
    refine XS.aloadN X28.here hx rfl (hb hby d7_76) rfl rfl ?_
    show Steps p.tables e below (T28.setTop (mkF m 77 #[.val (.ref a1), .val (.int p2), .val (.long q3), .second] [(.ref a1)])) _
    jvm_step X28.here [X28.here.top, hx, (hb hby d7_77), X28.method', Bd.returns, Value.isRef, FieldType.isReference]
    first | (intro acts; rw [hr _ acts rfl rfl rfl]) | rw [hr _ _ rfl rfl rfl]
    exact Steps.refl _
  · show Q7 Z a1 p2 q3 w_variables_a1 w_coefficients_a1 u_constant_a1 k_w_variables_a1 k_w_coefficients_a1 h0 n0 _ T28.heap _
    rw [e28]
    have F29 := (F21.other W28 (Or.inr (slot_ne (Or.inl (hw _ (List.mem_of_getElem? (i := 11) rfl))) (Or.inl (hw _ (List.mem_of_getElem? (i := 37) rfl))) (by decide) (t := (.array .int)) (t' := .int) (by decide) (by decide))))
    have F30 := (F22.other W28 (Or.inr (slot_ne (Or.inl (hw _ (List.mem_of_getElem? (i := 14) rfl))) (Or.inl (hw _ (List.mem_of_getElem? (i := 37) rfl))) (by decide) (t := (.array .long)) (t' := .int) (by decide) (by decide))))
    have F31 := (F23.other W28 (Or.inr (slot_ne (Or.inl (hw _ (List.mem_of_getElem? (i := 21) rfl))) (Or.inl (hw _ (List.mem_of_getElem? (i := 37) rfl))) (by decide) (t := .long) (t' := .int) (by decide) (by decide))))
    have Ex32 := (Ex25.wr W28)
    have Av33 := (Av26.other W28 (Ne.symm ne_a1_w_variables_a1))
    have Av34 := (V19.other W28 (Ne.symm ne_a1_w_coefficients_a1))
    have Zs35 : n0 ≤ h28.size := (Nat.le_trans Zs27 (Keep.of_wr W28).1)
    exact ⟨rfl, N28, K28, Ex32, F29, F30, F31, Fw28, Av33, Av34⟩
theorem d4_0 : decode jdk_29_method_25_code 0 = .ok (.lload_n 0, 1) := by decide +kernel
theorem d4_1 : decode jdk_29_method_25_code 1 = .ok (.lload_n 2, 1) := by decide +kernel
theorem d4_2 : decode jdk_29_method_25_code 2 = .ok (.ladd, 1) := by decide +kernel
theorem d4_3 : decode jdk_29_method_25_code 3 = .ok (.lstore 4, 2) := by decide +kernel
theorem d4_5 : decode jdk_29_method_25_code 5 = .ok (.lload_n 0, 1) := by decide +kernel
theorem d4_6 : decode jdk_29_method_25_code 6 = .ok (.lload 4, 2) := by decide +kernel
theorem d4_8 : decode jdk_29_method_25_code 8 = .ok (.lxor, 1) := by decide +kernel
theorem d4_9 : decode jdk_29_method_25_code 9 = .ok (.lload_n 2, 1) := by decide +kernel
theorem d4_10 : decode jdk_29_method_25_code 10 = .ok (.lload 4, 2) := by decide +kernel
theorem d4_12 : decode jdk_29_method_25_code 12 = .ok (.lxor, 1) := by decide +kernel
theorem d4_13 : decode jdk_29_method_25_code 13 = .ok (.land, 1) := by decide +kernel
theorem d4_14 : decode jdk_29_method_25_code 14 = .ok (.lconst 0, 1) := by decide +kernel
theorem d4_15 : decode jdk_29_method_25_code 15 = .ok (.lcmp, 1) := by decide +kernel
theorem d4_16 : decode jdk_29_method_25_code 16 = .ok (.ifCond .ge 13, 3) := by decide +kernel
theorem d4_29 : decode jdk_29_method_25_code 29 = .ok (.lload 4, 2) := by decide +kernel
theorem d4_31 : decode jdk_29_method_25_code 31 = .ok (.lreturn, 1) := by decide +kernel
theorem ef_4 (m : MethodId) (x0 : Int64) (x1 : Int64) : entryFrame m #[(.long x0), (.long x1)] 6 = mkF m 0 #[.val (.long x0), .second, .val (.long x1), .second, .unset, .unset] [] := by first | (simp [entryFrame, mkF, argsToLocals, Value.category]; done) | rfl
def f4 (q1 : Int64) (q2 : Int64) : Int64 := (q1 + q2)
def Q4 (Z : State) (q1 : Int64) (q2 : Int64) (h0 : Heap) (n0 : Nat) (v : Option Value) (h : Heap) (L : List Loc) : Prop := v = some (.long (f4 q1 q2)) ∧ Fr n0 L ∧ h = h0
set_option maxRecDepth 65536 in
set_option maxHeartbeats 40000000 in
theorem rm4 (l : Launch) (Z : State) (a0 : Array Value) (hw : ∀ d ∈ tables_1, d.before a0 Z = true) (ws : List Jvm.Cond) (q1 : Int64) (q2 : Int64) (h0 : Heap) (n0 : Nat) (Z0 : n0 ≤ h0.size) (hno16 : ¬ (((q1 ^^^ (q1 + q2)) &&& (q2 ^^^ (q1 + q2))) < (0 : Int64))) :
    MetFree l (⟨"java/lang/Math", "addExact", "(JJ)J"⟩ : MethodName) (head1 (Jvm.Cond.code (⟨"java/lang/Math", "addExact", "(JJ)J"⟩ : MethodName) jdk_29_method_25_code 6 (some .long) :: ws) ({ frames := 0, cells := 0, slots := 0, locals := 0 } : Room)) (fun a U => a = #[(.long q1), (.long q2)] ∧ Z.Warmed39 U.vm ∧ U.heap = h0) (fun _ _ _ _ _ => True) (fun _ U o U' => ∃ v L, o = .returned v ∧ Q4 Z q1 q2 h0 n0 v U'.heap L ∧ FrameEnd U o U' L ({ frames := 0, cells := 0, slots := 0, locals := 0 } : Room).cells ({ frames := 0, cells := 0, slots := 0, locals := 0 } : Room).slots) := by
  refine MetFree.of_bodySF (Jvm.Free.JP.mathPlain rfl (by decide +kernel)) hisR ?_
  intro p e s m args below meth c s₁ Bd hml0 hP hK
  obtain ⟨rfl, hZ, hh⟩ := hP
  have hx := Bd.exec
  have hby := Bd.bytes
  have hml : c.maxLocals = 6 := hml0
  have hown : s.vm.findClass "java/lang/Math" = some m.cls := findClass_of_methodNamed Bd.named
  have hnm := (name_of_methodNamed Bd.named Bd.method).1
  have X0 : Stand p l e ({ frames := 0, cells := 0, slots := 0, locals := 0 } : Room) s m #[(.long q1), (.long q2)] below meth c s₁ [] 0 0 := Stand.of_body Bd
  have e0 : s₁.heap = h0 := by rw [← hh, Bd.state]; rfl
  have N0 := Fr.nil n0
  have pre0 : ∀ t, Steps p.tables e below (s₁.setTop (mkF m 0 #[.val (.long q1), .second, .val (.long q2), .second, .unset, .unset] [])) t → Steps p.tables e below (s₁.setTop (entryFrame m #[(.long q1), (.long q2)] 6)) t := fun t k => castTop (ef_4 m q1 q2) k
  obtain ⟨fs, hr, hrun, hended, hW, hsame⟩ := X0.leave (v := some (.long (q1 + q2))) (fun h => by rw [Bd.returns] at h; cases h) (by first | exact BodyLoose.notSynchronized Bd | exact Body.notSynchronized Bd)
  refine ⟨_, _, pre0 _ ?_, hrun, hended, _, _, rfl, ?_, ⟨_, rfl⟩, hW, hsame.mono (by decide) (by decide)⟩
  · show Steps p.tables e below (s₁.setTop (mkF m 0 #[.val (.long q1), .second, .val (.long q2), .second, .unset, .unset] [])) _
    refine XS.lloadN X0.here hx rfl (hb hby d4_0) rfl ?_
    show Steps p.tables e below (s₁.setTop (mkF m 1 _ [(.long q1)])) _
    refine XS.lloadN X0.here hx rfl (hb hby d4_1) rfl ?_
    show Steps p.tables e below (s₁.setTop (mkF m 2 _ [(.long q2), (.long q1)])) _
    refine XS.ladd X0.here hx rfl (hb hby d4_2) rfl ?_
    show Steps p.tables e below (s₁.setTop (mkF m 3 _ [(.long (q1 + q2))])) _
    refine XS.lstore X0.here hx rfl (hb hby d4_3) rfl (l' := #[.val (.long q1), .second, .val (.long q2), .second, .val (.long (q1 + q2)), .second]) rfl ?_
    show Steps p.tables e below (s₁.setTop (mkF m 5 _ [])) _
    refine XS.lloadN X0.here hx rfl (hb hby d4_5) rfl ?_
    show Steps p.tables e below (s₁.setTop (mkF m 6 _ [(.long q1)])) _
    refine XS.lload X0.here hx rfl (hb hby d4_6) rfl ?_
    show Steps p.tables e below (s₁.setTop (mkF m 8 _ [(.long (q1 + q2)), (.long q1)])) _
    refine XS.lxor X0.here hx rfl (hb hby d4_8) rfl ?_
    show Steps p.tables e below (s₁.setTop (mkF m 9 _ [(.long (q1 ^^^ (q1 + q2)))])) _
    refine XS.lloadN X0.here hx rfl (hb hby d4_9) rfl ?_
    show Steps p.tables e below (s₁.setTop (mkF m 10 _ [(.long q2), (.long (q1 ^^^ (q1 + q2)))])) _
    refine XS.lload X0.here hx rfl (hb hby d4_10) rfl ?_
    show Steps p.tables e below (s₁.setTop (mkF m 12 _ [(.long (q1 + q2)), (.long q2), (.long (q1 ^^^ (q1 + q2)))])) _
    refine XS.lxor X0.here hx rfl (hb hby d4_12) rfl ?_
    show Steps p.tables e below (s₁.setTop (mkF m 13 _ [(.long (q2 ^^^ (q1 + q2))), (.long (q1 ^^^ (q1 + q2)))])) _
    refine XS.land X0.here hx rfl (hb hby d4_13) rfl ?_
    show Steps p.tables e below (s₁.setTop (mkF m 14 _ [(.long ((q1 ^^^ (q1 + q2)) &&& (q2 ^^^ (q1 + q2))))])) _
    refine XS.lconst X0.here hx rfl (hb hby d4_14) ?_
    show Steps p.tables e below (s₁.setTop (mkF m 15 _ [(.long (0 : Int64)), (.long ((q1 ^^^ (q1 + q2)) &&& (q2 ^^^ (q1 + q2))))])) _
    refine XS.lcmp X0.here hx rfl (hb hby d4_15) rfl ?_
    show Steps p.tables e below (s₁.setTop (mkF m 16 _ [(.int (lcmpW ((q1 ^^^ (q1 + q2)) &&& (q2 ^^^ (q1 + q2))) (0 : Int64)))])) _
    refine XS.ifYes X0.here hx rfl (pc0 := 16) (pc' := 29) rfl (hb hby d4_16) rfl ((if0 _ _).trans (flt (mt (lw_lt _ _).mp (hno16))).2.1) (by decide) (by decide) ?_
    show Steps p.tables e below (s₁.setTop (mkF m 29 _ [])) _
    refine XS.lload X0.here hx rfl (hb hby d4_29) rfl ?_
    show Steps p.tables e below (s₁.setTop (mkF m 31 #[.val (.long q1), .second, .val (.long q2), .second, .val (.long (q1 + q2)), .second] [(.long (q1 + q2))])) _
    exact X0.lreturnOut hx Bd.returns (hb hby d4_31) hr
  · show Q4 Z q1 q2 h0 n0 _ s₁.heap _
    rw [e0]
    exact ⟨congrArg (fun z => some (Value.long z)) (by rw [f4] : f4 q1 q2 = (q1 + q2)).symm, N0, rfl⟩
theorem d3_0 : decode prog_27_method_4_code 0 = .ok (.aload_n 0, 1) := by decide +kernel
theorem d3_1 : decode prog_27_method_4_code 1 = .ok (.aload_n 0, 1) := by decide +kernel
theorem d3_2 : decode prog_27_method_4_code 2 = .ok (.getfield 40, 3) := by decide +kernel
theorem d3_5 : decode prog_27_method_4_code 5 = .ok (.lload_n 1, 1) := by decide +kernel
theorem d3_6 : decode prog_27_method_4_code 6 = .ok (.invokestatic 48, 3) := by decide +kernel
theorem d3_9 : decode prog_27_method_4_code 9 = .ok (.putfield 40, 3) := by decide +kernel
theorem d3_12 : decode prog_27_method_4_code 12 = .ok (.aload_n 0, 1) := by decide +kernel
theorem d3_13 : decode prog_27_method_4_code 13 = .ok (.areturn, 1) := by decide +kernel
theorem pn_3 : plainName "com/example/releve/releve/LinearExpression" = true := by first | (simp [plainName, overriddenIn]; done) | decide +kernel
theorem pd_3_2 : parseMethodDescriptor "(JJ)J" = some ⟨[.long, .long], some .long⟩ := by decide +kernel
theorem ef_3 (m : MethodId) (x0 : Addr) (x1 : Int64) : entryFrame m #[(.ref x0), (.long x1)] 3 = mkF m 0 #[.val (.ref x0), .val (.long x1), .second] [] := by first | (simp [entryFrame, mkF, argsToLocals, Value.category]; done) | rfl
def Q3 (Z : State) (a1 : Addr) (q2 : Int64) (u_variables_a1 : Value) (u_coefficients_a1 : Value) (w_constant_a1 : Int64) (u_size_a1 : Value) (h0 : Heap) (n0 : Nat) (v : Option Value) (h : Heap) (L : List Loc) : Prop := v = some (.ref a1) ∧ Fr n0 L ∧ Keep h0 h [a1] ∧ Exa Z h a1 "com/example/releve/releve/LinearExpression" ∧ Fld Z h a1 "com/example/releve/releve/LinearExpression" "variables" "[I" u_variables_a1 ∧ Fld Z h a1 "com/example/releve/releve/LinearExpression" "coefficients" "[J" u_coefficients_a1 ∧ Fld Z h a1 "com/example/releve/releve/LinearExpression" "constant" "J" (.long (f4 w_constant_a1 q2)) ∧ Fld Z h a1 "com/example/releve/releve/LinearExpression" "size" "I" u_size_a1
set_option maxRecDepth 65536 in
set_option maxHeartbeats 40000000 in
theorem rm3 (l : Launch) (Z : State) (a0 : Array Value) (hw : ∀ d ∈ tables_1, d.before a0 Z = true) (ws : List Jvm.Cond) (a1 : Addr) (q2 : Int64) (u_variables_a1 : Value) (u_coefficients_a1 : Value) (w_constant_a1 : Int64) (u_size_a1 : Value) (h0 : Heap) (n0 : Nat) (Z0 : n0 ≤ h0.size) (hno6 : ¬ (((w_constant_a1 ^^^ (w_constant_a1 + q2)) &&& (q2 ^^^ (w_constant_a1 + q2))) < (0 : Int64))) (E_a1 : Exa Z h0 a1 "com/example/releve/releve/LinearExpression") (F_variables_a1 : Fld Z h0 a1 "com/example/releve/releve/LinearExpression" "variables" "[I" u_variables_a1) (F_coefficients_a1 : Fld Z h0 a1 "com/example/releve/releve/LinearExpression" "coefficients" "[J" u_coefficients_a1) (F_constant_a1 : Fld Z h0 a1 "com/example/releve/releve/LinearExpression" "constant" "J" (.long w_constant_a1)) (F_size_a1 : Fld Z h0 a1 "com/example/releve/releve/LinearExpression" "size" "I" u_size_a1) (g_a1 : n0 ≤ a1) :
    MetFree l (⟨"com/example/releve/releve/LinearExpression", "plusConstant", "(J)Lcom/example/releve/releve/LinearExpression;"⟩ : MethodName) (head1 (Jvm.Cond.code (⟨"com/example/releve/releve/LinearExpression", "plusConstant", "(J)Lcom/example/releve/releve/LinearExpression;"⟩ : MethodName) prog_27_method_4_code 3 (some (.object "com/example/releve/releve/LinearExpression")) :: ws) ({ frames := 1, cells := 0, slots := 0, locals := 18 } : Room)) (fun a U => a = #[(.ref a1), (.long q2)] ∧ Z.Warmed39 U.vm ∧ U.heap = h0) (fun _ _ _ _ _ => True) (fun _ U o U' => ∃ v L, o = .returned v ∧ Q3 Z a1 q2 u_variables_a1 u_coefficients_a1 w_constant_a1 u_size_a1 h0 n0 v U'.heap L ∧ FrameEnd U o U' L ({ frames := 1, cells := 0, slots := 0, locals := 18 } : Room).cells ({ frames := 1, cells := 0, slots := 0, locals := 18 } : Room).slots) := by
  refine MetFree.of_bodySF (plainFor_of_name pn_3) hisR ?_
  intro p e s m args below meth c s₁ Bd hml0 hP hK
  obtain ⟨rfl, hZ, hh⟩ := hP
  have hx := Bd.exec
  have hby := Bd.bytes
  have hml : c.maxLocals = 3 := hml0
  have hown : s.vm.findClass "com/example/releve/releve/LinearExpression" = some m.cls := findClass_of_methodNamed Bd.named
  have hnm := (name_of_methodNamed Bd.named Bd.method).1
  have X0 : Stand p l e ({ frames := 1, cells := 0, slots := 0, locals := 18 } : Room) s m #[(.ref a1), (.long q2)] below meth c s₁ [] 0 0 := Stand.of_body Bd
  have e0 : s₁.heap = h0 := by rw [← hh, Bd.state]; rfl
  have N0 := Fr.nil n0
  have pre0 : ∀ t, Steps p.tables e below (s₁.setTop (mkF m 0 #[.val (.ref a1), .val (.long q2), .second] [])) t → Steps p.tables e below (s₁.setTop (entryFrame m #[(.ref a1), (.long q2)] 3)) t := fun t k => castTop (ef_3 m a1 q2) k
  obtain ⟨T3, X3, e3, st3⟩ := getF X0 hx hZ hown (host := "") (Or.inl (hw _ (List.mem_of_getElem? (i := 20) rfl))) Via.refl e0 F_constant_a1 (g := (mkF m 2 #[.val (.ref a1), .val (.long q2), .second] [(.ref a1), (.ref a1)])) rfl rfl (hb hby d3_2)
  obtain ⟨_, _, ⟨T4, L4, k4, n4⟩, -, X4, ⟨Lc4, hQ4, l4, y4, z4⟩, st4⟩ := Jvm.LawKit.callS X3 hx (y := (⟨"java/lang/Math", "addExact", "(JJ)J"⟩ : MethodName)) hown (mvT hZ (hw _ (List.mem_of_getElem? (i := 22) rfl))) (mvT hZ (hw _ (List.mem_of_getElem? (i := 23) rfl))) (mvT hZ (hw _ (List.mem_of_getElem? (i := 24) rfl))) (mvT hZ (hw _ (List.mem_of_getElem? (i := 25) rfl))) (by decide) (backOf (W := 1) (rm4 l Z a0 hw [] w_constant_a1 q2 h0 n0 Z0 hno6) hZ (hw _ (List.mem_of_getElem? (i := 25) rfl)) (hw _ (List.mem_of_getElem? (i := 24) rfl)) (by decide) (by decide)) (g := (mkF m 6 #[.val (.ref a1), .val (.long q2), .second] [(.long q2), (.long w_constant_a1), (.ref a1)])) rfl (by rw [hml]; rfl) (argsL := [(.long w_constant_a1), (.long q2)]) (rest := [(.ref a1)]) (lenOf pd_3_2 rfl) rfl (by show 2 * 0 + _ ≤ _; exact Nat.le_of_eq rfl) (hb hby d3_6) (fun _ _ => ⟨rfl, e3, (by decide : 0 + 0 ≤ _), (by decide : 0 + 0 ≤ _)⟩)
  dsimp only [Pt.U, Pt.locs, Pt.cells, Pt.slots] at X4 l4 y4 z4 st4 hQ4
  subst l4 y4 z4
  obtain ⟨rfl, N4q, e4⟩ := hQ4
  have N4 := Fr.app N0 N4q
  obtain ⟨T5, h5, X5, e5, W5, st5⟩ := putF X4 hx hZ hown (host := "") (Or.inl (hw _ (List.mem_of_getElem? (i := 20) rfl))) Via.refl e4 F_constant_a1 E_a1 (Or.inl (hw _ (List.mem_of_getElem? (i := 21) rfl))) (hw _ (List.mem_of_getElem? (i := 1) rfl)) (ty := .long) (by decide) rfl rfl (g := (mkF m 9 #[.val (.ref a1), .val (.long q2), .second] [(.long (f4 w_constant_a1 q2)), (.ref a1)])) rfl rfl (hb hby d3_9)
  have Fw5 := F_constant_a1.same W5
  have N5 := Fr.snoc X5 N4 g_a1
  have K5 : Keep h0 h5 [a1] := (Keep.refl h0 [a1]).wr W5 (Or.inl (List.mem_of_getElem? (i := 0) rfl))
  obtain ⟨fs, hr, hrun, hended, hW, hsame⟩ := X5.leave (v := some (.ref a1)) (fun h => by rw [Bd.returns] at h; cases h) (by first | exact BodyLoose.notSynchronized Bd | exact Body.notSynchronized Bd)
  refine ⟨_, _, pre0 _ ?_, hrun, hended, _, _, rfl, ?_, ⟨_, rfl⟩, hW, hsame.mono (by decide) (by decide)⟩
  · show Steps p.tables e below (s₁.setTop (mkF m 0 #[.val (.ref a1), .val (.long q2), .second] [])) _
    refine XS.aloadN X0.here hx rfl (hb hby d3_0) rfl rfl ?_
    show Steps p.tables e below (s₁.setTop (mkF m 1 _ [(.ref a1)])) _
    refine XS.aloadN X0.here hx rfl (hb hby d3_1) rfl rfl ?_
    show Steps p.tables e below (s₁.setTop (mkF m 2 _ [(.ref a1), (.ref a1)])) _
    refine st3 _ ?_
    show Steps p.tables e below (T3.setTop (mkF m 5 _ [(.long w_constant_a1), (.ref a1)])) _
    refine XS.lloadN X3.here hx rfl (hb hby d3_5) rfl ?_
    show Steps p.tables e below (T3.setTop (mkF m 6 _ [(.long q2), (.long w_constant_a1), (.ref a1)])) _
    refine st4 _ ?_
    show Steps p.tables e below (T4.setTop (mkF m 9 _ [(.long (f4 w_constant_a1 q2)), (.ref a1)])) _
    refine st5 _ ?_
    show Steps p.tables e below (T5.setTop (mkF m 12 _ [])) _
    refine XS.aloadN X5.here hx rfl (hb hby d3_12) rfl rfl ?_
    show Steps p.tables e below (T5.setTop (mkF m 13 #[.val (.ref a1), .val (.long q2), .second] [(.ref a1)])) _
    jvm_step X5.here [X5.here.top, hx, (hb hby d3_13), X5.method', Bd.returns, Value.isRef, FieldType.isReference]
    first | (intro acts; rw [hr _ acts rfl rfl rfl]) | rw [hr _ _ rfl rfl rfl]
    exact Steps.refl _
  · show Q3 Z a1 q2 u_variables_a1 u_coefficients_a1 w_constant_a1 u_size_a1 h0 n0 _ T5.heap _
    rw [e5]
    have F6 := (F_variables_a1.other W5 (Or.inr (slot_ne (Or.inl (hw _ (List.mem_of_getElem? (i := 11) rfl))) (Or.inl (hw _ (List.mem_of_getElem? (i := 21) rfl))) (by decide) (t := (.array .int)) (t' := .long) (by decide) (by decide))))
    have F7 := (F_coefficients_a1.other W5 (Or.inr (slot_ne (Or.inl (hw _ (List.mem_of_getElem? (i := 14) rfl))) (Or.inl (hw _ (List.mem_of_getElem? (i := 21) rfl))) (by decide) (t := (.array .long)) (t' := .long) (by decide) (by decide))))
    have F8 := (F_size_a1.other W5 (Or.inr (slot_ne (Or.inl (hw _ (List.mem_of_getElem? (i := 37) rfl))) (Or.inl (hw _ (List.mem_of_getElem? (i := 21) rfl))) (by decide) (t := .int) (t' := .long) (by decide) (by decide))))
    have Ex9 := (E_a1.wr W5)
    have Zs10 : n0 ≤ h5.size := (Nat.le_trans Z0 (Keep.of_wr W5).1)
    exact ⟨rfl, N5, K5, Ex9, F6, F7, Fw5, F8⟩
theorem d5_0 : decode prog_27_method_8_code 0 = .ok (.aload_n 0, 1) := by decide +kernel
theorem d5_1 : decode prog_27_method_8_code 1 = .ok (.getfield 40, 3) := by decide +kernel
theorem d5_4 : decode prog_27_method_8_code 4 = .ok (.lreturn, 1) := by decide +kernel
theorem pn_5 : plainName "com/example/releve/releve/LinearExpression" = true := by first | (simp [plainName, overriddenIn]; done) | decide +kernel
theorem ef_5 (m : MethodId) (x0 : Addr) : entryFrame m #[(.ref x0)] 1 = mkF m 0 #[.val (.ref x0)] [] := by first | (simp [entryFrame, mkF, argsToLocals, Value.category]; done) | rfl
def Q5 (Z : State) (a1 : Addr) (w_constant_a1 : Int64) (h0 : Heap) (n0 : Nat) (v : Option Value) (h : Heap) (L : List Loc) : Prop := v = some (.long w_constant_a1) ∧ Fr n0 L ∧ h = h0
set_option maxRecDepth 65536 in
set_option maxHeartbeats 40000000 in
theorem rm5 (l : Launch) (Z : State) (a0 : Array Value) (hw : ∀ d ∈ tables_1, d.before a0 Z = true) (ws : List Jvm.Cond) (a1 : Addr) (w_constant_a1 : Int64) (h0 : Heap) (n0 : Nat) (Z0 : n0 ≤ h0.size) (F_constant_a1 : Fld Z h0 a1 "com/example/releve/releve/LinearExpression" "constant" "J" (.long w_constant_a1)) :
    MetFree l (⟨"com/example/releve/releve/LinearExpression", "constant", "()J"⟩ : MethodName) (head1 (Jvm.Cond.code (⟨"com/example/releve/releve/LinearExpression", "constant", "()J"⟩ : MethodName) prog_27_method_8_code 1 (some .long) :: ws) ({ frames := 0, cells := 0, slots := 0, locals := 0 } : Room)) (fun a U => a = #[(.ref a1)] ∧ Z.Warmed39 U.vm ∧ U.heap = h0) (fun _ _ _ _ _ => True) (fun _ U o U' => ∃ v L, o = .returned v ∧ Q5 Z a1 w_constant_a1 h0 n0 v U'.heap L ∧ FrameEnd U o U' L ({ frames := 0, cells := 0, slots := 0, locals := 0 } : Room).cells ({ frames := 0, cells := 0, slots := 0, locals := 0 } : Room).slots) := by
  refine MetFree.of_bodySF (plainFor_of_name pn_5) hisR ?_
  intro p e s m args below meth c s₁ Bd hml0 hP hK
  obtain ⟨rfl, hZ, hh⟩ := hP
  have hx := Bd.exec
  have hby := Bd.bytes
  have hml : c.maxLocals = 1 := hml0
  have hown : s.vm.findClass "com/example/releve/releve/LinearExpression" = some m.cls := findClass_of_methodNamed Bd.named
  have hnm := (name_of_methodNamed Bd.named Bd.method).1
  have X0 : Stand p l e ({ frames := 0, cells := 0, slots := 0, locals := 0 } : Room) s m #[(.ref a1)] below meth c s₁ [] 0 0 := Stand.of_body Bd
  have e0 : s₁.heap = h0 := by rw [← hh, Bd.state]; rfl
  have N0 := Fr.nil n0
  have pre0 : ∀ t, Steps p.tables e below (s₁.setTop (mkF m 0 #[.val (.ref a1)] [])) t → Steps p.tables e below (s₁.setTop (entryFrame m #[(.ref a1)] 1)) t := fun t k => castTop (ef_5 m a1) k
  obtain ⟨T2, X2, e2, st2⟩ := getF X0 hx hZ hown (host := "") (Or.inl (hw _ (List.mem_of_getElem? (i := 20) rfl))) Via.refl e0 F_constant_a1 (g := (mkF m 1 #[.val (.ref a1)] [(.ref a1)])) rfl rfl (hb hby d5_1)
  obtain ⟨fs, hr, hrun, hended, hW, hsame⟩ := X2.leave (v := some (.long w_constant_a1)) (fun h => by rw [Bd.returns] at h; cases h) (by first | exact BodyLoose.notSynchronized Bd | exact Body.notSynchronized Bd)
  refine ⟨_, _, pre0 _ ?_, hrun, hended, _, _, rfl, ?_, ⟨_, rfl⟩, hW, hsame.mono (by decide) (by decide)⟩
  · show Steps p.tables e below (s₁.setTop (mkF m 0 #[.val (.ref a1)] [])) _
    refine XS.aloadN X0.here hx rfl (hb hby d5_0) rfl rfl ?_
    show Steps p.tables e below (s₁.setTop (mkF m 1 _ [(.ref a1)])) _
    refine st2 _ ?_
    show Steps p.tables e below (T2.setTop (mkF m 4 #[.val (.ref a1)] [(.long w_constant_a1)])) _
    exact X2.lreturnOut hx Bd.returns (hb hby d5_4) hr
  · show Q5 Z a1 w_constant_a1 h0 n0 _ T2.heap _
    rw [e2]
    exact ⟨rfl, N0, rfl⟩
theorem d6_0 : decode prog_27_method_5_code 0 = .ok (.aload_n 0, 1) := by decide +kernel
theorem d6_1 : decode prog_27_method_5_code 1 = .ok (.getfield 17, 3) := by decide +kernel
theorem d6_4 : decode prog_27_method_5_code 4 = .ok (.ireturn, 1) := by decide +kernel
theorem pn_6 : plainName "com/example/releve/releve/LinearExpression" = true := by first | (simp [plainName, overriddenIn]; done) | decide +kernel
theorem ef_6 (m : MethodId) (x0 : Addr) : entryFrame m #[(.ref x0)] 1 = mkF m 0 #[.val (.ref x0)] [] := by first | (simp [entryFrame, mkF, argsToLocals, Value.category]; done) | rfl
def Q6 (Z : State) (a1 : Addr) (w_size_a1 : Int32) (h0 : Heap) (n0 : Nat) (v : Option Value) (h : Heap) (L : List Loc) : Prop := v = some (.int w_size_a1) ∧ Fr n0 L ∧ h = h0
set_option maxRecDepth 65536 in
set_option maxHeartbeats 40000000 in
theorem rm6 (l : Launch) (Z : State) (a0 : Array Value) (hw : ∀ d ∈ tables_1, d.before a0 Z = true) (ws : List Jvm.Cond) (a1 : Addr) (w_size_a1 : Int32) (h0 : Heap) (n0 : Nat) (Z0 : n0 ≤ h0.size) (F_size_a1 : Fld Z h0 a1 "com/example/releve/releve/LinearExpression" "size" "I" (.int w_size_a1)) :
    MetFree l (⟨"com/example/releve/releve/LinearExpression", "size", "()I"⟩ : MethodName) (head1 (Jvm.Cond.code (⟨"com/example/releve/releve/LinearExpression", "size", "()I"⟩ : MethodName) prog_27_method_5_code 1 (some .int) :: ws) ({ frames := 0, cells := 0, slots := 0, locals := 0 } : Room)) (fun a U => a = #[(.ref a1)] ∧ Z.Warmed39 U.vm ∧ U.heap = h0) (fun _ _ _ _ _ => True) (fun _ U o U' => ∃ v L, o = .returned v ∧ Q6 Z a1 w_size_a1 h0 n0 v U'.heap L ∧ FrameEnd U o U' L ({ frames := 0, cells := 0, slots := 0, locals := 0 } : Room).cells ({ frames := 0, cells := 0, slots := 0, locals := 0 } : Room).slots) := by
  refine MetFree.of_bodySF (plainFor_of_name pn_6) hisR ?_
  intro p e s m args below meth c s₁ Bd hml0 hP hK
  obtain ⟨rfl, hZ, hh⟩ := hP
  have hx := Bd.exec
  have hby := Bd.bytes
  have hml : c.maxLocals = 1 := hml0
  have hown : s.vm.findClass "com/example/releve/releve/LinearExpression" = some m.cls := findClass_of_methodNamed Bd.named
  have hnm := (name_of_methodNamed Bd.named Bd.method).1
  have X0 : Stand p l e ({ frames := 0, cells := 0, slots := 0, locals := 0 } : Room) s m #[(.ref a1)] below meth c s₁ [] 0 0 := Stand.of_body Bd
  have e0 : s₁.heap = h0 := by rw [← hh, Bd.state]; rfl
  have N0 := Fr.nil n0
  have pre0 : ∀ t, Steps p.tables e below (s₁.setTop (mkF m 0 #[.val (.ref a1)] [])) t → Steps p.tables e below (s₁.setTop (entryFrame m #[(.ref a1)] 1)) t := fun t k => castTop (ef_6 m a1) k
  obtain ⟨T2, X2, e2, st2⟩ := getF X0 hx hZ hown (host := "") (Or.inl (hw _ (List.mem_of_getElem? (i := 36) rfl))) Via.refl e0 F_size_a1 (g := (mkF m 1 #[.val (.ref a1)] [(.ref a1)])) rfl rfl (hb hby d6_1)
  obtain ⟨fs, hr, hrun, hended, hW, hsame⟩ := X2.leave (v := some (.int w_size_a1)) (fun h => by rw [Bd.returns] at h; cases h) (by first | exact BodyLoose.notSynchronized Bd | exact Body.notSynchronized Bd)
  refine ⟨_, _, pre0 _ ?_, hrun, hended, _, _, rfl, ?_, ⟨_, rfl⟩, hW, hsame.mono (by decide) (by decide)⟩
  · show Steps p.tables e below (s₁.setTop (mkF m 0 #[.val (.ref a1)] [])) _
    refine XS.aloadN X0.here hx rfl (hb hby d6_0) rfl rfl ?_
    show Steps p.tables e below (s₁.setTop (mkF m 1 _ [(.ref a1)])) _
    refine st2 _ ?_
    show Steps p.tables e below (T2.setTop (mkF m 4 #[.val (.ref a1)] [(.int w_size_a1)])) _
    exact retI X2 hx Bd.returns (hb hby d6_4) hr
  · show Q6 Z a1 w_size_a1 h0 n0 _ T2.heap _
    rw [e2]
    exact ⟨rfl, N0, rfl⟩
theorem d8_0 : decode prog_27_method_6_code 0 = .ok (.aload_n 0, 1) := by decide +kernel
theorem d8_1 : decode prog_27_method_6_code 1 = .ok (.getfield 7, 3) := by decide +kernel
theorem d8_4 : decode prog_27_method_6_code 4 = .ok (.iload_n 1, 1) := by decide +kernel
theorem d8_5 : decode prog_27_method_6_code 5 = .ok (.iaload, 1) := by decide +kernel
theorem d8_6 : decode prog_27_method_6_code 6 = .ok (.ireturn, 1) := by decide +kernel
theorem pn_8 : plainName "com/example/releve/releve/LinearExpression" = true := by first | (simp [plainName, overriddenIn]; done) | decide +kernel
theorem ef_8 (m : MethodId) (x0 : Addr) (x1 : Int32) : entryFrame m #[(.ref x0), (.int x1)] 2 = mkF m 0 #[.val (.ref x0), .val (.int x1)] [] := by first | (simp [entryFrame, mkF, argsToLocals, Value.category]; done) | rfl
def f8 (p2 : Int32) (vs_w_variables_a1 : List Int32) : Int32 := (own_at vs_w_variables_a1 p2)
def Q8 (Z : State) (a1 : Addr) (p2 : Int32) (w_variables_a1 : Addr) (k_w_variables_a1 : ClassId) (vs_w_variables_a1 : List Int32) (n_w_variables_a1 : Int32) (h0 : Heap) (n0 : Nat) (v : Option Value) (h : Heap) (L : List Loc) : Prop := v = some (.int (f8 p2 vs_w_variables_a1)) ∧ Fr n0 L ∧ h = h0
set_option maxRecDepth 65536 in
set_option maxHeartbeats 40000000 in
theorem rm8 (l : Launch) (Z : State) (a0 : Array Value) (hw : ∀ d ∈ tables_1, d.before a0 Z = true) (ws : List Jvm.Cond) (a1 : Addr) (p2 : Int32) (w_variables_a1 : Addr) (k_w_variables_a1 : ClassId) (vs_w_variables_a1 : List Int32) (n_w_variables_a1 : Int32) (h0 : Heap) (n0 : Nat) (Z0 : n0 ≤ h0.size) (F_variables_a1 : Fld Z h0 a1 "com/example/releve/releve/LinearExpression" "variables" "[I" (.ref w_variables_a1)) (V_w_variables_a1 : Arv Z h0 w_variables_a1 k_w_variables_a1 .int n_w_variables_a1 (vs_w_variables_a1.map Value.int) (.int (0 : Int32))) (hin5 : (¬ (p2 < (0 : Int32)) ∧ p2 < n_w_variables_a1)) :
    MetFree l (⟨"com/example/releve/releve/LinearExpression", "variable", "(I)I"⟩ : MethodName) (head1 (Jvm.Cond.code (⟨"com/example/releve/releve/LinearExpression", "variable", "(I)I"⟩ : MethodName) prog_27_method_6_code 2 (some .int) :: ws) ({ frames := 0, cells := 0, slots := 0, locals := 0 } : Room)) (fun a U => a = #[(.ref a1), (.int p2)] ∧ Z.Warmed39 U.vm ∧ U.heap = h0) (fun _ _ _ _ _ => True) (fun _ U o U' => ∃ v L, o = .returned v ∧ Q8 Z a1 p2 w_variables_a1 k_w_variables_a1 vs_w_variables_a1 n_w_variables_a1 h0 n0 v U'.heap L ∧ FrameEnd U o U' L ({ frames := 0, cells := 0, slots := 0, locals := 0 } : Room).cells ({ frames := 0, cells := 0, slots := 0, locals := 0 } : Room).slots) := by
  refine MetFree.of_bodySF (plainFor_of_name pn_8) hisR ?_
  intro p e s m args below meth c s₁ Bd hml0 hP hK
  obtain ⟨rfl, hZ, hh⟩ := hP
  have hx := Bd.exec
  have hby := Bd.bytes
  have hml : c.maxLocals = 2 := hml0
  have hown : s.vm.findClass "com/example/releve/releve/LinearExpression" = some m.cls := findClass_of_methodNamed Bd.named
  have hnm := (name_of_methodNamed Bd.named Bd.method).1
  have X0 : Stand p l e ({ frames := 0, cells := 0, slots := 0, locals := 0 } : Room) s m #[(.ref a1), (.int p2)] below meth c s₁ [] 0 0 := Stand.of_body Bd
  have e0 : s₁.heap = h0 := by rw [← hh, Bd.state]; rfl
  have N0 := Fr.nil n0
  have pre0 : ∀ t, Steps p.tables e below (s₁.setTop (mkF m 0 #[.val (.ref a1), .val (.int p2)] [])) t → Steps p.tables e below (s₁.setTop (entryFrame m #[(.ref a1), (.int p2)] 2)) t := fun t k => castTop (ef_8 m a1 p2) k
  obtain ⟨T3, X3, e3, st3⟩ := getF X0 hx hZ hown (host := "") (Or.inl (hw _ (List.mem_of_getElem? (i := 10) rfl))) Via.refl e0 F_variables_a1 (g := (mkF m 1 #[.val (.ref a1), .val (.int p2)] [(.ref a1)])) rfl rfl (hb hby d8_1)
  obtain ⟨cl4, Ar4, qq4, Ss4, Nn4, Hh4, Gg4⟩ := id V_w_variables_a1
  have hin4 : ¬ (p2 < 0 ∨ cl4.slots.size ≤ (p2).toNatClampNeg) := inb_of Ss4 (hin5)
  have hat4 := Has.at (v := (.int (own_at vs_w_variables_a1 p2))) Hh4 hin4 (own_getD _ _)
  obtain ⟨fs, hr, hrun, hended, hW, hsame⟩ := X3.leave (v := some (.int (own_at vs_w_variables_a1 p2))) (fun h => by rw [Bd.returns] at h; cases h) (by first | exact BodyLoose.notSynchronized Bd | exact Body.notSynchronized Bd)
  refine ⟨_, _, pre0 _ ?_, hrun, hended, _, _, rfl, ?_, ⟨_, rfl⟩, hW, hsame.mono (by decide) (by decide)⟩
  · show Steps p.tables e below (s₁.setTop (mkF m 0 #[.val (.ref a1), .val (.int p2)] [])) _
    refine XS.aloadN X0.here hx rfl (hb hby d8_0) rfl rfl ?_
    show Steps p.tables e below (s₁.setTop (mkF m 1 _ [(.ref a1)])) _
    refine st3 _ ?_
    show Steps p.tables e below (T3.setTop (mkF m 4 _ [(.ref w_variables_a1)])) _
    refine XS.iloadN X3.here hx rfl (hb hby d8_4) rfl ?_
    show Steps p.tables e below (T3.setTop (mkF m 5 _ [(.int p2), (.ref w_variables_a1)])) _
    refine X3.iaload hx (j := p2) (v := (.int (own_at vs_w_variables_a1 p2))) (by rw [e3]; exact Ar4.1) (State.isArrayOf_alike hZ.alike Ar4.2.1) Ar4.2.2 hin4 hat4 (g := (mkF m 5 #[.val (.ref a1), .val (.int p2)] [(.int p2), (.ref w_variables_a1)])) rfl rfl (hb hby d8_5) _ ?_
    show Steps p.tables e below (T3.setTop (mkF m 6 #[.val (.ref a1), .val (.int p2)] [(.int (own_at vs_w_variables_a1 p2))])) _
    exact retI X3 hx Bd.returns (hb hby d8_6) hr
  · show Q8 Z a1 p2 w_variables_a1 k_w_variables_a1 vs_w_variables_a1 n_w_variables_a1 h0 n0 _ T3.heap _
    rw [e3]
    exact ⟨congrArg (fun z => some (Value.int z)) (by rw [f8] : f8 p2 vs_w_variables_a1 = (own_at vs_w_variables_a1 p2)).symm, N0, rfl⟩
theorem d9_0 : decode prog_27_method_7_code 0 = .ok (.aload_n 0, 1) := by decide +kernel
theorem d9_1 : decode prog_27_method_7_code 1 = .ok (.getfield 13, 3) := by decide +kernel
theorem d9_4 : decode prog_27_method_7_code 4 = .ok (.iload_n 1, 1) := by decide +kernel
theorem d9_5 : decode prog_27_method_7_code 5 = .ok (.laload, 1) := by decide +kernel
theorem d9_6 : decode prog_27_method_7_code 6 = .ok (.lreturn, 1) := by decide +kernel
theorem pn_9 : plainName "com/example/releve/releve/LinearExpression" = true := by first | (simp [plainName, overriddenIn]; done) | decide +kernel
theorem ef_9 (m : MethodId) (x0 : Addr) (x1 : Int32) : entryFrame m #[(.ref x0), (.int x1)] 2 = mkF m 0 #[.val (.ref x0), .val (.int x1)] [] := by first | (simp [entryFrame, mkF, argsToLocals, Value.category]; done) | rfl
def f9 (p2 : Int32) (vs_w_coefficients_a1 : List Int64) : Int64 := (own_atL vs_w_coefficients_a1 p2)
def Q9 (Z : State) (a1 : Addr) (p2 : Int32) (w_coefficients_a1 : Addr) (k_w_coefficients_a1 : ClassId) (vs_w_coefficients_a1 : List Int64) (n_w_coefficients_a1 : Int32) (h0 : Heap) (n0 : Nat) (v : Option Value) (h : Heap) (L : List Loc) : Prop := v = some (.long (f9 p2 vs_w_coefficients_a1)) ∧ Fr n0 L ∧ h = h0
set_option maxRecDepth 65536 in
set_option maxHeartbeats 40000000 in
theorem rm9 (l : Launch) (Z : State) (a0 : Array Value) (hw : ∀ d ∈ tables_1, d.before a0 Z = true) (ws : List Jvm.Cond) (a1 : Addr) (p2 : Int32) (w_coefficients_a1 : Addr) (k_w_coefficients_a1 : ClassId) (vs_w_coefficients_a1 : List Int64) (n_w_coefficients_a1 : Int32) (h0 : Heap) (n0 : Nat) (Z0 : n0 ≤ h0.size) (F_coefficients_a1 : Fld Z h0 a1 "com/example/releve/releve/LinearExpression" "coefficients" "[J" (.ref w_coefficients_a1)) (V_w_coefficients_a1 : Arv Z h0 w_coefficients_a1 k_w_coefficients_a1 .long n_w_coefficients_a1 (vs_w_coefficients_a1.map Value.long) (.long (0 : Int64))) (hin5 : (¬ (p2 < (0 : Int32)) ∧ p2 < n_w_coefficients_a1)) :
    MetFree l (⟨"com/example/releve/releve/LinearExpression", "coefficient", "(I)J"⟩ : MethodName) (head1 (Jvm.Cond.code (⟨"com/example/releve/releve/LinearExpression", "coefficient", "(I)J"⟩ : MethodName) prog_27_method_7_code 2 (some .long) :: ws) ({ frames := 0, cells := 0, slots := 0, locals := 0 } : Room)) (fun a U => a = #[(.ref a1), (.int p2)] ∧ Z.Warmed39 U.vm ∧ U.heap = h0) (fun _ _ _ _ _ => True) (fun _ U o U' => ∃ v L, o = .returned v ∧ Q9 Z a1 p2 w_coefficients_a1 k_w_coefficients_a1 vs_w_coefficients_a1 n_w_coefficients_a1 h0 n0 v U'.heap L ∧ FrameEnd U o U' L ({ frames := 0, cells := 0, slots := 0, locals := 0 } : Room).cells ({ frames := 0, cells := 0, slots := 0, locals := 0 } : Room).slots) := by
  refine MetFree.of_bodySF (plainFor_of_name pn_9) hisR ?_
  intro p e s m args below meth c s₁ Bd hml0 hP hK
  obtain ⟨rfl, hZ, hh⟩ := hP
  have hx := Bd.exec
  have hby := Bd.bytes
  have hml : c.maxLocals = 2 := hml0
  have hown : s.vm.findClass "com/example/releve/releve/LinearExpression" = some m.cls := findClass_of_methodNamed Bd.named
  have hnm := (name_of_methodNamed Bd.named Bd.method).1
  have X0 : Stand p l e ({ frames := 0, cells := 0, slots := 0, locals := 0 } : Room) s m #[(.ref a1), (.int p2)] below meth c s₁ [] 0 0 := Stand.of_body Bd
  have e0 : s₁.heap = h0 := by rw [← hh, Bd.state]; rfl
  have N0 := Fr.nil n0
  have pre0 : ∀ t, Steps p.tables e below (s₁.setTop (mkF m 0 #[.val (.ref a1), .val (.int p2)] [])) t → Steps p.tables e below (s₁.setTop (entryFrame m #[(.ref a1), (.int p2)] 2)) t := fun t k => castTop (ef_9 m a1 p2) k
  obtain ⟨T3, X3, e3, st3⟩ := getF X0 hx hZ hown (host := "") (Or.inl (hw _ (List.mem_of_getElem? (i := 13) rfl))) Via.refl e0 F_coefficients_a1 (g := (mkF m 1 #[.val (.ref a1), .val (.int p2)] [(.ref a1)])) rfl rfl (hb hby d9_1)
  obtain ⟨cl4, Ar4, qq4, Ss4, Nn4, Hh4, Gg4⟩ := id V_w_coefficients_a1
  have hin4 : ¬ (p2 < 0 ∨ cl4.slots.size ≤ (p2).toNatClampNeg) := inb_of Ss4 (hin5)
  have hat4 := Has.at (v := (.long (own_atL vs_w_coefficients_a1 p2))) Hh4 hin4 (own_getDL _ _)
  obtain ⟨fs, hr, hrun, hended, hW, hsame⟩ := X3.leave (v := some (.long (own_atL vs_w_coefficients_a1 p2))) (fun h => by rw [Bd.returns] at h; cases h) (by first | exact BodyLoose.notSynchronized Bd | exact Body.notSynchronized Bd)
  refine ⟨_, _, pre0 _ ?_, hrun, hended, _, _, rfl, ?_, ⟨_, rfl⟩, hW, hsame.mono (by decide) (by decide)⟩
  · show Steps p.tables e below (s₁.setTop (mkF m 0 #[.val (.ref a1), .val (.int p2)] [])) _
    refine XS.aloadN X0.here hx rfl (hb hby d9_0) rfl rfl ?_
    show Steps p.tables e below (s₁.setTop (mkF m 1 _ [(.ref a1)])) _
    refine st3 _ ?_
    show Steps p.tables e below (T3.setTop (mkF m 4 _ [(.ref w_coefficients_a1)])) _
    refine XS.iloadN X3.here hx rfl (hb hby d9_4) rfl ?_
    show Steps p.tables e below (T3.setTop (mkF m 5 _ [(.int p2), (.ref w_coefficients_a1)])) _
    refine X3.laload hx (j := p2) (v := (.long (own_atL vs_w_coefficients_a1 p2))) (by rw [e3]; exact Ar4.1) (State.isArrayOf_alike hZ.alike Ar4.2.1) Ar4.2.2 hin4 hat4 (g := (mkF m 5 #[.val (.ref a1), .val (.int p2)] [(.int p2), (.ref w_coefficients_a1)])) rfl rfl (hb hby d9_5) _ ?_
    show Steps p.tables e below (T3.setTop (mkF m 6 #[.val (.ref a1), .val (.int p2)] [(.long (own_atL vs_w_coefficients_a1 p2))])) _
    exact X3.lreturnOut hx Bd.returns (hb hby d9_6) hr
  · show Q9 Z a1 p2 w_coefficients_a1 k_w_coefficients_a1 vs_w_coefficients_a1 n_w_coefficients_a1 h0 n0 _ T3.heap _
    rw [e3]
    exact ⟨congrArg (fun z => some (Value.long z)) (by rw [f9] : f9 p2 vs_w_coefficients_a1 = (own_atL vs_w_coefficients_a1 p2)).symm, N0, rfl⟩
theorem pn_0 : plainName "com/example/releve/releve/LinearExpressionPlusConstantPinLaw" = true := by first | (simp [plainName, overriddenIn]; done) | decide +kernel
theorem pd_0_0 : parseMethodDescriptor "()V" = some ⟨[], none⟩ := by decide +kernel
theorem pd_0_1 : parseMethodDescriptor "(J)Lcom/example/releve/releve/LinearExpression;" = some ⟨[.long], some (.object "com/example/releve/releve/LinearExpression")⟩ := by decide +kernel
theorem pd_0_3 : parseMethodDescriptor "()J" = some ⟨[], some .long⟩ := by decide +kernel
theorem pd_0_4 : parseMethodDescriptor "()I" = some ⟨[], some .int⟩ := by decide +kernel
theorem pd_0_5 : parseMethodDescriptor "(IJ)Lcom/example/releve/releve/LinearExpression;" = some ⟨[.int, .long], some (.object "com/example/releve/releve/LinearExpression")⟩ := by decide +kernel
theorem pd_0_6 : parseMethodDescriptor "(I)I" = some ⟨[.int], some .int⟩ := by decide +kernel
theorem pd_0_7 : parseMethodDescriptor "(I)J" = some ⟨[.int], some .long⟩ := by decide +kernel
theorem ef_0 (m : MethodId) (x0 : Int64) (x1 : Int64) (x2 : Int32) (x3 : Int64) (x4 : Int32) : entryFrame m #[(.long x0), (.long x1), (.int x2), (.long x3), (.int x4)] maxLocals = mkF m 0 #[.val (.long x0), .second, .val (.long x1), .second, .val (.int x2), .val (.long x3), .second, .val (.int x4), .unset, .unset, .unset, .unset, .unset, .unset, .unset] [] := by first | (simp [entryFrame, mkF, argsToLocals, Value.category, maxLocals]; done) | rfl
def f0 (q1 : Int64) (q2 : Int64) (p3 : Int32) (q4 : Int64) (p5 : Int32) : Int32 := (if (p5 &&& (1 : Int32)) = (0 : Int32) then (if (f4 (0 : Int64) q1) = q1 then (if ((q1 ^^^ (q1 + q2)) &&& (q2 ^^^ (q1 + q2))) < (0 : Int64) then (1 : Int32) else (if (f4 (f4 (0 : Int64) q1) q2) = (q1 + q2) then (1 : Int32) else (0 : Int32))) else (0 : Int32)) else (if (f4 (0 : Int64) q1) = q1 then (if ((q1 ^^^ (q1 + q2)) &&& (q2 ^^^ (q1 + q2))) < (0 : Int64) then (if ((0 : Int32) + (1 : Int32)) = (1 : Int32) then (if (f8 (0 : Int32) [p3, (0 : Int32), (0 : Int32), (0 : Int32), (0 : Int32), (0 : Int32), (0 : Int32), (0 : Int32)]) = p3 then (if (f9 (0 : Int32) [q4, (0 : Int64), (0 : Int64), (0 : Int64), (0 : Int64), (0 : Int64), (0 : Int64), (0 : Int64)]) = q4 then (1 : Int32) else (0 : Int32)) else (0 : Int32)) else (0 : Int32)) else (if (f4 (f4 (0 : Int64) q1) q2) = (q1 + q2) then (if ((0 : Int32) + (1 : Int32)) = (1 : Int32) then (if (f8 (0 : Int32) [p3, (0 : Int32), (0 : Int32), (0 : Int32), (0 : Int32), (0 : Int32), (0 : Int32), (0 : Int32)]) = p3 then (if (f9 (0 : Int32) [q4, (0 : Int64), (0 : Int64), (0 : Int64), (0 : Int64), (0 : Int64), (0 : Int64), (0 : Int64)]) = q4 then (1 : Int32) else (0 : Int32)) else (0 : Int32)) else (0 : Int32)) else (0 : Int32))) else (0 : Int32)))
def Q0 (Z : State) (q1 : Int64) (q2 : Int64) (p3 : Int32) (q4 : Int64) (p5 : Int32) (h0 : Heap) (n0 : Nat) (v : Option Value) (h : Heap) (L : List Loc) : Prop := v = some (.int (f0 q1 q2 p3 q4 p5)) ∧ Fr n0 L
theorem own_f4 (q : Int64) : f4 (0 : Int64) q = q := by unfold f4; exact Int64.zero_add q
theorem own_no0 (q : Int64) : ¬ ((((0 : Int64) ^^^ ((0 : Int64) + q)) &&& (q ^^^ ((0 : Int64) + q))) < (0 : Int64)) := by
  rw [Int64.zero_add, Int64.xor_self, Int64.and_zero]; decide
theorem own_no1 (a b : Int64) (h : ¬ (((a ^^^ (a + b)) &&& (b ^^^ (a + b))) < (0 : Int64))) : ¬ ((((f4 (0 : Int64) a) ^^^ ((f4 (0 : Int64) a) + b)) &&& (b ^^^ ((f4 (0 : Int64) a) + b))) < (0 : Int64)) := by
  rw [own_f4]; exact h
set_option maxRecDepth 65536 in
set_option maxHeartbeats 40000000 in
theorem rm0 (l : Launch) (Z : State) (a0 : Array Value) (hw : ∀ d ∈ tables_1, d.before a0 Z = true) (ws : List Jvm.Cond) (q1 : Int64) (q2 : Int64) (p3 : Int32) (q4 : Int64) (p5 : Int32) (h0 : Heap) (n0 : Nat) (Z0 : n0 ≤ h0.size) :
    MetFree l x (head1 (Jvm.Cond.code x code maxLocals ret :: ws) room_1) (fun a U => a = #[(.long q1), (.long q2), (.int p3), (.long q4), (.int p5)] ∧ Z.Warmed39 U.vm ∧ U.heap = h0) (fun _ _ _ _ _ => True) (fun _ U o U' => ∃ v L, o = .returned v ∧ Q0 Z q1 q2 p3 q4 p5 h0 n0 v U'.heap L ∧ FrameEnd U o U' L room_1.cells room_1.slots) := by
  refine MetFree.of_bodySF (plainFor_of_name pn_0) hisR ?_
  intro p e s m args below meth c s₁ Bd hml0 hP hK
  obtain ⟨rfl, hZ, hh⟩ := hP
  have hx := Bd.exec
  have hby := Bd.bytes
  have hml : c.maxLocals = 15 := hml0
  have hown : s.vm.findClass "com/example/releve/releve/LinearExpressionPlusConstantPinLaw" = some m.cls := findClass_of_methodNamed Bd.named
  have hnm := (name_of_methodNamed Bd.named Bd.method).1
  have X0 : Stand p l e room_1 s m #[(.long q1), (.long q2), (.int p3), (.long q4), (.int p5)] below meth c s₁ [] 0 0 := Stand.of_body Bd
  have e0 : s₁.heap = h0 := by rw [← hh, Bd.state]; rfl
  have N0 := Fr.nil n0
  have pre0 : ∀ t, Steps p.tables e below (s₁.setTop (mkF m 0 #[.val (.long q1), .second, .val (.long q2), .second, .val (.int p3), .val (.long q4), .second, .val (.int p5), .unset, .unset, .unset, .unset, .unset, .unset, .unset] [])) t → Steps p.tables e below (s₁.setTop (entryFrame m #[(.long q1), (.long q2), (.int p3), (.long q4), (.int p5)] maxLocals)) t := fun t k => castTop (ef_0 m q1 q2 p3 q4 p5) k
  obtain ⟨T6, h6, X6, e6, E6, A6, D6, -, st6⟩ := newO X0 hx hZ hown (hw _ (List.mem_of_getElem? (i := 0) rfl)) (hw _ (List.mem_of_getElem? (i := 1) rfl)) (hw _ (List.mem_of_getElem? (i := 2) rfl)) e0 (g := (mkF m 0 #[.val (.long q1), .second, .val (.long q2), .second, .val (.int p3), .val (.long q4), .second, .val (.int p5), .unset, .unset, .unset, .unset, .unset, .unset, .unset] [])) rfl (hb hby at_0) (by decide) (by decide)
  obtain ⟨b6, g6⟩ : ∃ z, z = h0.size := ⟨_, rfl⟩
  rw [← g6] at A6 D6 st6
  have g_b6 : n0 ≤ b6 := Nat.le_trans Z0 (Nat.le_of_eq g6.symm)
  have F_variables_b6 : Fld Z h6 b6 "com/example/releve/releve/LinearExpression" "variables" "[I" .null := D6 (Or.inl (hw _ (List.mem_of_getElem? (i := 11) rfl))) (ty := (.array .int)) (by decide)
  have F_coefficients_b6 : Fld Z h6 b6 "com/example/releve/releve/LinearExpression" "coefficients" "[J" .null := D6 (Or.inl (hw _ (List.mem_of_getElem? (i := 14) rfl))) (ty := (.array .long)) (by decide)
  have F_constant_b6 : Fld Z h6 b6 "com/example/releve/releve/LinearExpression" "constant" "J" (.long (0 : Int64)) := D6 (Or.inl (hw _ (List.mem_of_getElem? (i := 21) rfl))) (ty := .long) (by decide)
  have F_size_b6 : Fld Z h6 b6 "com/example/releve/releve/LinearExpression" "size" "I" (.int (0 : Int32)) := D6 (Or.inl (hw _ (List.mem_of_getElem? (i := 37) rfl))) (ty := .int) (by decide)
  have Zs8 : n0 ≤ h6.size := (Nat.le_trans Z0 E6.1)
  obtain ⟨_, _, ⟨T7, L7, k7, n7⟩, -, X7, ⟨Lc7, hQ7, l7, y7, z7⟩, st7⟩ := X6.specialBack hx (y := (⟨"com/example/releve/releve/LinearExpression", "<init>", "()V"⟩ : MethodName)) rfl hown (mvT hZ (hw _ (List.mem_of_getElem? (i := 3) rfl))) (mvT hZ (hw _ (List.mem_of_getElem? (i := 4) rfl))) (mvT hZ (hw _ (List.mem_of_getElem? (i := 5) rfl))) (by decide) (backOf (W := 1) (rm1 l Z a0 hw [] b6 .null .null (.long (0 : Int64)) (.int (0 : Int32)) h6 n0 Zs8 A6 F_variables_b6 F_coefficients_b6 F_constant_b6 F_size_b6 g_b6) hZ (hw _ (List.mem_of_getElem? (i := 5) rfl)) (hw _ (List.mem_of_getElem? (i := 2) rfl)) (by decide) (by decide)) (g := (mkF m 4 #[.val (.long q1), .second, .val (.long q2), .second, .val (.int p3), .val (.long q4), .second, .val (.int p5), .unset, .unset, .unset, .unset, .unset, .unset, .unset] [(.ref b6), (.ref b6)])) rfl (by rw [hml]; rfl) (Steps.refl _) (a := b6) (argsL := []) (rest := [(.ref b6)]) (lenOf pd_0_0 rfl) rfl (by show 2 * 0 + _ ≤ _; exact Nat.le_of_eq rfl) (hb hby at_4) (fun _ _ => ⟨rfl, e6, (by decide : 1 + 2 ≤ _), (by decide : 4 + 16 ≤ _)⟩)
  dsimp only [Pt.U, Pt.locs, Pt.cells, Pt.slots] at X7 l7 y7 z7 st7 hQ7
  subst l7 y7 z7
  obtain ⟨b7_b3, k7_b3, g_b7_b3, sz_b7_b3, b7_b17, k7_b17, g_b7_b17, sz_b7_b17, nq7_0, rfl, N7q, Kp7, qp7_0, qp7_1, qp7_2, qp7_3, qp7_4, qp7_5, qp7_6⟩ := hQ7
  have ne_b6_b7_b3 : b6 ≠ b7_b3 := Nat.ne_of_lt (Nat.lt_of_lt_of_le A6.lt sz_b7_b3)
  have ne_b6_b7_b17 : b6 ≠ b7_b17 := Nat.ne_of_lt (Nat.lt_of_lt_of_le A6.lt sz_b7_b17)
  have N7 := Fr.app N0 N7q
  have pre9 : ∀ t, Steps p.tables e below (T7.setTop (mkF m 13 #[.val (.long q1), .second, .val (.long q2), .second, .val (.int p3), .val (.long q4), .second, .val (.int p5), .val (.ref b6), .unset, .unset, .unset, .unset, .unset, .unset] [(.int (p5 &&& (1 : Int32)))])) t → Steps p.tables e below (s₁.setTop (entryFrame m #[(.long q1), (.long q2), (.int p3), (.long q4), (.int p5)] maxLocals)) t := fun t kt => by
    refine pre0 _ ?_
    show Steps p.tables e below (s₁.setTop (mkF m 0 #[.val (.long q1), .second, .val (.long q2), .second, .val (.int p3), .val (.long q4), .second, .val (.int p5), .unset, .unset, .unset, .unset, .unset, .unset, .unset] [])) _
    refine st6 _ ?_
    show Steps p.tables e below (T6.setTop (mkF m 3 _ [(.ref b6)])) _
    refine XS.dup X6.here hx rfl (hb hby at_3) rfl rfl ?_
    show Steps p.tables e below (T6.setTop (mkF m 4 _ [(.ref b6), (.ref b6)])) _
    refine st7.trans ?_
    show Steps p.tables e below (T7.setTop (mkF m 7 _ [(.ref b6)])) _
    refine XS.astore X7.here hx rfl (hb hby at_7) rfl rfl (l' := #[.val (.long q1), .second, .val (.long q2), .second, .val (.int p3), .val (.long q4), .second, .val (.int p5), .val (.ref b6), .unset, .unset, .unset, .unset, .unset, .unset]) rfl ?_
    show Steps p.tables e below (T7.setTop (mkF m 9 _ [])) _
    refine XS.iload X7.here hx rfl (hb hby at_9) rfl ?_
    show Steps p.tables e below (T7.setTop (mkF m 11 _ [(.int p5)])) _
    refine XS.iconst X7.here hx rfl (hb hby at_11) ?_
    show Steps p.tables e below (T7.setTop (mkF m 12 _ [(.int (1 : Int32)), (.int p5)])) _
    refine XS.iand X7.here hx rfl (hb hby at_12) rfl ?_
    exact kt
  by_cases hc10 : (p5 &&& (1 : Int32)) = (0 : Int32)
  · skip
    have Zs12 : n0 ≤ T7.heap.size := (Nat.le_trans Zs8 Kp7.1)
    obtain ⟨cq11, kq11, q11a, q11b, q11c⟩ := isOf hZ rfl qp7_0
    obtain ⟨_, _, ⟨T11, L11, k11, n11⟩, -, X11, ⟨Lc11, hQ11, l11, y11, z11⟩, st11⟩ := X7.virtualBack hx (y := (⟨"com/example/releve/releve/LinearExpression", "plusConstant", "(J)Lcom/example/releve/releve/LinearExpression;"⟩ : MethodName)) (z := (⟨"com/example/releve/releve/LinearExpression", "plusConstant", "(J)Lcom/example/releve/releve/LinearExpression;"⟩ : MethodName)) hown (mvT hZ (hw _ (List.mem_of_getElem? (i := 15) rfl))) (mvT hZ (hw _ (List.mem_of_getElem? (i := 16) rfl))) (notFace_of_selects (args := #[]) (mvT hZ (hw _ (List.mem_of_getElem? (i := 18) rfl)))) (mvT hZ (hw _ (List.mem_of_getElem? (i := 18) rfl))) (mvT hZ (hw _ (List.mem_of_getElem? (i := 17) rfl))) (by decide) (backOf (W := 0) (rm3 l Z a0 hw [] b6 q1 (.ref b7_b3) (.ref b7_b17) (0 : Int64) (.int (0 : Int32)) T7.heap n0 Zs12 (own_no0 q1) qp7_0 qp7_1 qp7_2 qp7_3 qp7_4 g_b6) hZ (hw _ (List.mem_of_getElem? (i := 19) rfl)) (hw _ (List.mem_of_getElem? (i := 2) rfl)) (by decide) (by decide)) q11a q11c (g := (mkF m 41 #[.val (.long q1), .second, .val (.long q2), .second, .val (.int p3), .val (.long q4), .second, .val (.int p5), .val (.ref b6), .val (.int (0 : Int32)), .unset, .unset, .unset, .unset, .unset] [(.long q1), (.ref b6)])) rfl (by rw [hml]; rfl) (Steps.refl _) (argsL := [(.long q1)]) (rest := []) (lenOf pd_0_1 rfl) rfl (by show 2 * 0 + _ ≤ _; exact Nat.le_of_eq rfl) (hb hby at_41) (fun _ _ => ⟨rfl, rfl, (by decide : 3 + 0 ≤ _), (by decide : 20 + 0 ≤ _)⟩)
    dsimp only [Pt.U, Pt.locs, Pt.cells, Pt.slots] at X11 l11 y11 z11 st11 hQ11
    subst l11 y11 z11
    obtain ⟨rfl, N11q, Kp11, qp11_0, qp11_1, qp11_2, qp11_3, qp11_4⟩ := hQ11
    have N11 := Fr.app N7 N11q
    have Av14 := (qp7_5.keep Kp11 (ninS (Ne.symm ne_b6_b7_b3) nin0))
    have Av15 := (qp7_6.keep Kp11 (ninS (Ne.symm ne_b6_b7_b17) nin0))
    have Zs16 : n0 ≤ T11.heap.size := (Nat.le_trans Zs12 Kp11.1)
    obtain ⟨cq13, kq13, q13a, q13b, q13c⟩ := isOf hZ rfl qp11_0
    obtain ⟨_, _, ⟨T13, L13, k13, n13⟩, -, X13, ⟨Lc13, hQ13, l13, y13, z13⟩, st13⟩ := X11.virtualBack hx (y := (⟨"com/example/releve/releve/LinearExpression", "constant", "()J"⟩ : MethodName)) (z := (⟨"com/example/releve/releve/LinearExpression", "constant", "()J"⟩ : MethodName)) hown (mvT hZ (hw _ (List.mem_of_getElem? (i := 26) rfl))) (mvT hZ (hw _ (List.mem_of_getElem? (i := 27) rfl))) (notFace_of_selects (args := #[]) (mvT hZ (hw _ (List.mem_of_getElem? (i := 29) rfl)))) (mvT hZ (hw _ (List.mem_of_getElem? (i := 29) rfl))) (mvT hZ (hw _ (List.mem_of_getElem? (i := 28) rfl))) (by decide) (backOf (W := 0) (rm5 l Z a0 hw [] b6 (f4 (0 : Int64) q1) T11.heap n0 Zs16 qp11_3) hZ (hw _ (List.mem_of_getElem? (i := 30) rfl)) (hw _ (List.mem_of_getElem? (i := 2) rfl)) (by decide) (by decide)) q13a q13c (g := (mkF m 57 #[.val (.long q1), .second, .val (.long q2), .second, .val (.int p3), .val (.long q4), .second, .val (.int p5), .val (.ref b6), .val (.int (0 : Int32)), .val (.ref b6), .unset, .unset, .unset, .unset] [(.ref b6)])) rfl (by rw [hml]; rfl) (Steps.refl _) (argsL := []) (rest := []) (lenOf pd_0_3 rfl) rfl (by show 2 * 0 + _ ≤ _; exact Nat.le_of_eq rfl) (hb hby at_57) (fun _ _ => ⟨rfl, rfl, (by decide : 3 + 0 ≤ _), (by decide : 20 + 0 ≤ _)⟩)
    dsimp only [Pt.U, Pt.locs, Pt.cells, Pt.slots] at X13 l13 y13 z13 st13 hQ13
    subst l13 y13 z13
    obtain ⟨rfl, N13q, e13⟩ := hQ13
    have N13 := Fr.app N11 N13q
    have pre17 : ∀ t, Steps p.tables e below (T13.setTop (mkF m 62 #[.val (.long q1), .second, .val (.long q2), .second, .val (.int p3), .val (.long q4), .second, .val (.int p5), .val (.ref b6), .val (.int (0 : Int32)), .val (.ref b6), .unset, .unset, .unset, .unset] [(.int (lcmpW (f4 (0 : Int64) q1) q1))])) t → Steps p.tables e below (s₁.setTop (entryFrame m #[(.long q1), (.long q2), (.int p3), (.long q4), (.int p5)] maxLocals)) t := fun t kt => by
      refine pre9 _ ?_
      show Steps p.tables e below (T7.setTop (mkF m 13 #[.val (.long q1), .second, .val (.long q2), .second, .val (.int p3), .val (.long q4), .second, .val (.int p5), .val (.ref b6), .unset, .unset, .unset, .unset, .unset, .unset] [(.int (p5 &&& (1 : Int32)))])) _
      refine XS.ifYes X7.here hx rfl (pc0 := 13) (pc' := 20) rfl (hb hby at_13) rfl ((if0 _ _).trans (teq hc10).1) (by decide) (by decide) ?_
      show Steps p.tables e below (T7.setTop (mkF m 20 _ [])) _
      refine XS.iconst X7.here hx rfl (hb hby at_20) ?_
      show Steps p.tables e below (T7.setTop (mkF m 21 _ [(.int (0 : Int32))])) _
      refine XS.istore X7.here hx rfl (hb hby at_21) rfl (l' := #[.val (.long q1), .second, .val (.long q2), .second, .val (.int p3), .val (.long q4), .second, .val (.int p5), .val (.ref b6), .val (.int (0 : Int32)), .unset, .unset, .unset, .unset, .unset]) rfl ?_
      show Steps p.tables e below (T7.setTop (mkF m 23 _ [])) _
      refine XS.iload X7.here hx rfl (hb hby at_23) rfl ?_
      show Steps p.tables e below (T7.setTop (mkF m 25 _ [(.int (0 : Int32))])) _
      refine XS.ifYes X7.here hx rfl (pc0 := 25) (pc' := 38) rfl (hb hby at_25) rfl ((if0 _ _).trans (teq (by decide)).1) (by decide) (by decide) ?_
      show Steps p.tables e below (T7.setTop (mkF m 38 _ [])) _
      refine XS.aload X7.here hx rfl (hb hby at_38) rfl rfl ?_
      show Steps p.tables e below (T7.setTop (mkF m 40 _ [(.ref b6)])) _
      refine XS.lloadN X7.here hx rfl (hb hby at_40) rfl ?_
      show Steps p.tables e below (T7.setTop (mkF m 41 _ [(.long q1), (.ref b6)])) _
      refine st11.trans ?_
      show Steps p.tables e below (T11.setTop (mkF m 44 _ [(.ref b6)])) _
      refine XS.astore X11.here hx rfl (hb hby at_44) rfl rfl (l' := #[.val (.long q1), .second, .val (.long q2), .second, .val (.int p3), .val (.long q4), .second, .val (.int p5), .val (.ref b6), .val (.int (0 : Int32)), .val (.ref b6), .unset, .unset, .unset, .unset]) rfl ?_
      show Steps p.tables e below (T11.setTop (mkF m 46 _ [])) _
      refine XS.aload X11.here hx rfl (hb hby at_46) rfl rfl ?_
      show Steps p.tables e below (T11.setTop (mkF m 48 _ [(.ref b6)])) _
      refine XS.aload X11.here hx rfl (hb hby at_48) rfl rfl ?_
      show Steps p.tables e below (T11.setTop (mkF m 50 _ [(.ref b6), (.ref b6)])) _
      refine Jvm.RoadKit.acmp (g := (mkF m 50 #[.val (.long q1), .second, .val (.long q2), .second, .val (.int p3), .val (.long q4), .second, .val (.int p5), .val (.ref b6), .val (.int (0 : Int32)), .val (.ref b6), .unset, .unset, .unset, .unset] [(.ref b6), (.ref b6)])) X11 hx rfl rfl rfl (pc0 := 50) (pc' := 55) (same := true) rfl (hb hby at_50) rfl (decide_eq_true (congrArg Value.ref rfl)) (by decide) (by decide) ?_
      show Steps p.tables e below (T11.setTop (mkF m 55 _ [])) _
      refine XS.aload X11.here hx rfl (hb hby at_55) rfl rfl ?_
      show Steps p.tables e below (T11.setTop (mkF m 57 _ [(.ref b6)])) _
      refine st13.trans ?_
      show Steps p.tables e below (T13.setTop (mkF m 60 _ [(.long (f4 (0 : Int64) q1))])) _
      refine XS.lloadN X13.here hx rfl (hb hby at_60) rfl ?_
      show Steps p.tables e below (T13.setTop (mkF m 61 _ [(.long q1), (.long (f4 (0 : Int64) q1))])) _
      refine XS.lcmp X13.here hx rfl (hb hby at_61) rfl ?_
      exact kt
    by_cases hc18 : (f4 (0 : Int64) q1) = q1
    · skip
      have pre19 : ∀ t, Steps p.tables e below (T13.setTop (mkF m 83 #[.val (.long q1), .second, .val (.long q2), .second, .val (.int p3), .val (.long q4), .second, .val (.int p5), .val (.ref b6), .val (.int (0 : Int32)), .val (.ref b6), .val (.long (q1 + q2)), .second, .unset, .unset] [(.int (lcmpW ((q1 ^^^ (q1 + q2)) &&& (q2 ^^^ (q1 + q2))) (0 : Int64)))])) t → Steps p.tables e below (s₁.setTop (entryFrame m #[(.long q1), (.long q2), (.int p3), (.long q4), (.int p5)] maxLocals)) t := fun t kt => by
        refine pre17 _ ?_
        show Steps p.tables e below (T13.setTop (mkF m 62 #[.val (.long q1), .second, .val (.long q2), .second, .val (.int p3), .val (.long q4), .second, .val (.int p5), .val (.ref b6), .val (.int (0 : Int32)), .val (.ref b6), .unset, .unset, .unset, .unset] [(.int (lcmpW (f4 (0 : Int64) q1) q1))])) _
        refine XS.ifYes X13.here hx rfl (pc0 := 62) (pc' := 67) rfl (hb hby at_62) rfl ((if0 _ _).trans (teq ((lw_eq _ _).mpr hc18)).1) (by decide) (by decide) ?_
        show Steps p.tables e below (T13.setTop (mkF m 67 _ [])) _
        refine XS.lloadN X13.here hx rfl (hb hby at_67) rfl ?_
        show Steps p.tables e below (T13.setTop (mkF m 68 _ [(.long q1)])) _
        refine XS.lloadN X13.here hx rfl (hb hby at_68) rfl ?_
        show Steps p.tables e below (T13.setTop (mkF m 69 _ [(.long q2), (.long q1)])) _
        refine XS.ladd X13.here hx rfl (hb hby at_69) rfl ?_
        show Steps p.tables e below (T13.setTop (mkF m 70 _ [(.long (q1 + q2))])) _
        refine XS.lstore X13.here hx rfl (hb hby at_70) rfl (l' := #[.val (.long q1), .second, .val (.long q2), .second, .val (.int p3), .val (.long q4), .second, .val (.int p5), .val (.ref b6), .val (.int (0 : Int32)), .val (.ref b6), .val (.long (q1 + q2)), .second, .unset, .unset]) rfl ?_
        show Steps p.tables e below (T13.setTop (mkF m 72 _ [])) _
        refine XS.lloadN X13.here hx rfl (hb hby at_72) rfl ?_
        show Steps p.tables e below (T13.setTop (mkF m 73 _ [(.long q1)])) _
        refine XS.lload X13.here hx rfl (hb hby at_73) rfl ?_
        show Steps p.tables e below (T13.setTop (mkF m 75 _ [(.long (q1 + q2)), (.long q1)])) _
        refine XS.lxor X13.here hx rfl (hb hby at_75) rfl ?_
        show Steps p.tables e below (T13.setTop (mkF m 76 _ [(.long (q1 ^^^ (q1 + q2)))])) _
        refine XS.lloadN X13.here hx rfl (hb hby at_76) rfl ?_
        show Steps p.tables e below (T13.setTop (mkF m 77 _ [(.long q2), (.long (q1 ^^^ (q1 + q2)))])) _
        refine XS.lload X13.here hx rfl (hb hby at_77) rfl ?_
        show Steps p.tables e below (T13.setTop (mkF m 79 _ [(.long (q1 + q2)), (.long q2), (.long (q1 ^^^ (q1 + q2)))])) _
        refine XS.lxor X13.here hx rfl (hb hby at_79) rfl ?_
        show Steps p.tables e below (T13.setTop (mkF m 80 _ [(.long (q2 ^^^ (q1 + q2))), (.long (q1 ^^^ (q1 + q2)))])) _
        refine XS.land X13.here hx rfl (hb hby at_80) rfl ?_
        show Steps p.tables e below (T13.setTop (mkF m 81 _ [(.long ((q1 ^^^ (q1 + q2)) &&& (q2 ^^^ (q1 + q2))))])) _
        refine XS.lconst X13.here hx rfl (hb hby at_81) ?_
        show Steps p.tables e below (T13.setTop (mkF m 82 _ [(.long (0 : Int64)), (.long ((q1 ^^^ (q1 + q2)) &&& (q2 ^^^ (q1 + q2))))])) _
        refine XS.lcmp X13.here hx rfl (hb hby at_82) rfl ?_
        exact kt
      by_cases hc20 : ((q1 ^^^ (q1 + q2)) &&& (q2 ^^^ (q1 + q2))) < (0 : Int64)
      · skip
        obtain ⟨cq21, kq21, q21a, q21b, q21c⟩ := isOf hZ e13 qp11_0
        obtain ⟨_, _, ⟨T21, L21, k21, n21⟩, -, X21, ⟨Lc21, hQ21, l21, y21, z21⟩, st21⟩ := X13.virtualBack hx (y := (⟨"com/example/releve/releve/LinearExpression", "size", "()I"⟩ : MethodName)) (z := (⟨"com/example/releve/releve/LinearExpression", "size", "()I"⟩ : MethodName)) hown (mvT hZ (hw _ (List.mem_of_getElem? (i := 31) rfl))) (mvT hZ (hw _ (List.mem_of_getElem? (i := 32) rfl))) (notFace_of_selects (args := #[]) (mvT hZ (hw _ (List.mem_of_getElem? (i := 34) rfl)))) (mvT hZ (hw _ (List.mem_of_getElem? (i := 34) rfl))) (mvT hZ (hw _ (List.mem_of_getElem? (i := 33) rfl))) (by decide) (backOf (W := 0) (rm6 l Z a0 hw [] b6 (0 : Int32) T11.heap n0 Zs16 qp11_4) hZ (hw _ (List.mem_of_getElem? (i := 35) rfl)) (hw _ (List.mem_of_getElem? (i := 2) rfl)) (by decide) (by decide)) q21a q21c (g := (mkF m 142 #[.val (.long q1), .second, .val (.long q2), .second, .val (.int p3), .val (.long q4), .second, .val (.int p5), .val (.ref b6), .val (.int (0 : Int32)), .val (.ref b6), .val (.long (q1 + q2)), .second, .val (.int (1 : Int32)), .val (.int (0 : Int32))] [(.ref b6)])) rfl (by rw [hml]; rfl) (Steps.refl _) (argsL := []) (rest := []) (lenOf pd_0_4 rfl) rfl (by show 2 * 0 + _ ≤ _; exact Nat.le_of_eq rfl) (hb hby at_142) (fun _ _ => ⟨rfl, e13, (by decide : 3 + 0 ≤ _), (by decide : 20 + 0 ≤ _)⟩)
        dsimp only [Pt.U, Pt.locs, Pt.cells, Pt.slots] at X21 l21 y21 z21 st21 hQ21
        subst l21 y21 z21
        obtain ⟨rfl, N21q, e21⟩ := hQ21
        have N21 := Fr.app N13 N21q
        obtain ⟨fs, hr, hrun, hended, hW, hsame⟩ := X21.leave (v := some (.int (1 : Int32))) (fun h => by rw [Bd.returns] at h; cases h) (by first | exact BodyLoose.notSynchronized Bd | exact Body.notSynchronized Bd)
        refine ⟨_, _, pre19 _ ?_, hrun, hended, _, _, rfl, ?_, ⟨_, rfl⟩, hW, hsame.mono (by decide) (by decide)⟩
        · show Steps p.tables e below (T13.setTop (mkF m 83 #[.val (.long q1), .second, .val (.long q2), .second, .val (.int p3), .val (.long q4), .second, .val (.int p5), .val (.ref b6), .val (.int (0 : Int32)), .val (.ref b6), .val (.long (q1 + q2)), .second, .unset, .unset] [(.int (lcmpW ((q1 ^^^ (q1 + q2)) &&& (q2 ^^^ (q1 + q2))) (0 : Int64)))])) _
          refine XS.ifNo X13.here hx rfl (hb hby at_83) rfl ((if0 _ _).trans (tlt ((lw_lt _ _).mpr hc20)).2.1) ?_
          show Steps p.tables e below (T13.setTop (mkF m 86 _ [])) _
          refine XS.iconst X13.here hx rfl (hb hby at_86) ?_
          show Steps p.tables e below (T13.setTop (mkF m 87 _ [(.int (1 : Int32))])) _
          refine XS.goto X13.here hx rfl (pc0 := 87) (pc' := 91) rfl (hb hby at_87) (by decide) (by decide) ?_
          show Steps p.tables e below (T13.setTop (mkF m 91 _ [(.int (1 : Int32))])) _
          refine XS.istore X13.here hx rfl (hb hby at_91) rfl (l' := #[.val (.long q1), .second, .val (.long q2), .second, .val (.int p3), .val (.long q4), .second, .val (.int p5), .val (.ref b6), .val (.int (0 : Int32)), .val (.ref b6), .val (.long (q1 + q2)), .second, .val (.int (1 : Int32)), .unset]) rfl ?_
          show Steps p.tables e below (T13.setTop (mkF m 93 _ [])) _
          refine XS.iload X13.here hx rfl (hb hby at_93) rfl ?_
          show Steps p.tables e below (T13.setTop (mkF m 95 _ [(.int (1 : Int32))])) _
          refine XS.ifYes X13.here hx rfl (pc0 := 95) (pc' := 128) rfl (hb hby at_95) rfl ((if0 _ _).trans (feq (by decide)).2) (by decide) (by decide) ?_
          show Steps p.tables e below (T13.setTop (mkF m 128 _ [])) _
          refine XS.iload X13.here hx rfl (hb hby at_128) rfl ?_
          show Steps p.tables e below (T13.setTop (mkF m 130 _ [(.int (0 : Int32))])) _
          refine XS.ifYes X13.here hx rfl (pc0 := 130) (pc' := 137) rfl (hb hby at_130) rfl ((if0 _ _).trans (teq (by decide)).1) (by decide) (by decide) ?_
          show Steps p.tables e below (T13.setTop (mkF m 137 _ [])) _
          refine XS.iconst X13.here hx rfl (hb hby at_137) ?_
          show Steps p.tables e below (T13.setTop (mkF m 138 _ [(.int (0 : Int32))])) _
          refine XS.istore X13.here hx rfl (hb hby at_138) rfl (l' := #[.val (.long q1), .second, .val (.long q2), .second, .val (.int p3), .val (.long q4), .second, .val (.int p5), .val (.ref b6), .val (.int (0 : Int32)), .val (.ref b6), .val (.long (q1 + q2)), .second, .val (.int (1 : Int32)), .val (.int (0 : Int32))]) rfl ?_
          show Steps p.tables e below (T13.setTop (mkF m 140 _ [])) _
          refine XS.aload X13.here hx rfl (hb hby at_140) rfl rfl ?_
          show Steps p.tables e below (T13.setTop (mkF m 142 _ [(.ref b6)])) _
          refine st21.trans ?_
          show Steps p.tables e below (T21.setTop (mkF m 145 _ [(.int (0 : Int32))])) _
          refine XS.iload X21.here hx rfl (hb hby at_145) rfl ?_
          show Steps p.tables e below (T21.setTop (mkF m 147 _ [(.int (0 : Int32)), (.int (0 : Int32))])) _
          refine XS.icmpYes X21.here hx rfl (pc0 := 147) (pc' := 152) rfl (hb hby at_147) rfl (teq (by decide)).1 (by decide) (by decide) ?_
          show Steps p.tables e below (T21.setTop (mkF m 152 _ [])) _
          refine XS.iload X21.here hx rfl (hb hby at_152) rfl ?_
          show Steps p.tables e below (T21.setTop (mkF m 154 _ [(.int (0 : Int32))])) _
          refine XS.ifYes X21.here hx rfl (pc0 := 154) (pc' := 182) rfl (hb hby at_154) rfl ((if0 _ _).trans (teq (by decide)).1) (by decide) (by decide) ?_
          show Steps p.tables e below (T21.setTop (mkF m 182 _ [])) _
          refine XS.iconst X21.here hx rfl (hb hby at_182) ?_
          show Steps p.tables e below (T21.setTop (mkF m 183 #[.val (.long q1), .second, .val (.long q2), .second, .val (.int p3), .val (.long q4), .second, .val (.int p5), .val (.ref b6), .val (.int (0 : Int32)), .val (.ref b6), .val (.long (q1 + q2)), .second, .val (.int (1 : Int32)), .val (.int (0 : Int32))] [(.int (1 : Int32))])) _
          exact retN X21 hx (t := .boolean) Bd.returns (by simp) (hb hby at_183) hr
        · show Q0 Z q1 q2 p3 q4 p5 h0 n0 _ T21.heap _
          rw [e21]
          exact ⟨congrArg (fun z => some (Value.int z)) (by rw [f0, if_pos hc10, if_pos hc18, if_pos hc20] : f0 q1 q2 p3 q4 p5 = (1 : Int32)).symm, N21⟩
      · skip
        obtain ⟨cq22, kq22, q22a, q22b, q22c⟩ := isOf hZ e13 qp11_0
        obtain ⟨_, _, ⟨T22, L22, k22, n22⟩, -, X22, ⟨Lc22, hQ22, l22, y22, z22⟩, st22⟩ := X13.virtualBack hx (y := (⟨"com/example/releve/releve/LinearExpression", "plusConstant", "(J)Lcom/example/releve/releve/LinearExpression;"⟩ : MethodName)) (z := (⟨"com/example/releve/releve/LinearExpression", "plusConstant", "(J)Lcom/example/releve/releve/LinearExpression;"⟩ : MethodName)) hown (mvT hZ (hw _ (List.mem_of_getElem? (i := 15) rfl))) (mvT hZ (hw _ (List.mem_of_getElem? (i := 16) rfl))) (notFace_of_selects (args := #[]) (mvT hZ (hw _ (List.mem_of_getElem? (i := 18) rfl)))) (mvT hZ (hw _ (List.mem_of_getElem? (i := 18) rfl))) (mvT hZ (hw _ (List.mem_of_getElem? (i := 17) rfl))) (by decide) (backOf (W := 0) (rm3 l Z a0 hw [] b6 q2 (.ref b7_b3) (.ref b7_b17) (f4 (0 : Int64) q1) (.int (0 : Int32)) T11.heap n0 Zs16 (own_no1 q1 q2 (by assumption)) qp11_0 qp11_1 qp11_2 qp11_3 qp11_4 g_b6) hZ (hw _ (List.mem_of_getElem? (i := 19) rfl)) (hw _ (List.mem_of_getElem? (i := 2) rfl)) (by decide) (by decide)) q22a q22c (g := (mkF m 101 #[.val (.long q1), .second, .val (.long q2), .second, .val (.int p3), .val (.long q4), .second, .val (.int p5), .val (.ref b6), .val (.int (0 : Int32)), .val (.ref b6), .val (.long (q1 + q2)), .second, .val (.int (0 : Int32)), .unset] [(.long q2), (.ref b6)])) rfl (by rw [hml]; rfl) (Steps.refl _) (argsL := [(.long q2)]) (rest := []) (lenOf pd_0_1 rfl) rfl (by show 2 * 0 + _ ≤ _; exact Nat.le_of_eq rfl) (hb hby at_101) (fun _ _ => ⟨rfl, e13, (by decide : 3 + 0 ≤ _), (by decide : 20 + 0 ≤ _)⟩)
        dsimp only [Pt.U, Pt.locs, Pt.cells, Pt.slots] at X22 l22 y22 z22 st22 hQ22
        subst l22 y22 z22
        obtain ⟨rfl, N22q, Kp22, qp22_0, qp22_1, qp22_2, qp22_3, qp22_4⟩ := hQ22
        have N22 := Fr.app N13 N22q
        have Av24 := (Av14.keep Kp22 (ninS (Ne.symm ne_b6_b7_b3) nin0))
        have Av25 := (Av15.keep Kp22 (ninS (Ne.symm ne_b6_b7_b17) nin0))
        have Zs26 : n0 ≤ T22.heap.size := (Nat.le_trans Zs16 Kp22.1)
        obtain ⟨cq23, kq23, q23a, q23b, q23c⟩ := isOf hZ rfl qp22_0
        obtain ⟨_, _, ⟨T23, L23, k23, n23⟩, -, X23, ⟨Lc23, hQ23, l23, y23, z23⟩, st23⟩ := X22.virtualBack hx (y := (⟨"com/example/releve/releve/LinearExpression", "constant", "()J"⟩ : MethodName)) (z := (⟨"com/example/releve/releve/LinearExpression", "constant", "()J"⟩ : MethodName)) hown (mvT hZ (hw _ (List.mem_of_getElem? (i := 26) rfl))) (mvT hZ (hw _ (List.mem_of_getElem? (i := 27) rfl))) (notFace_of_selects (args := #[]) (mvT hZ (hw _ (List.mem_of_getElem? (i := 29) rfl)))) (mvT hZ (hw _ (List.mem_of_getElem? (i := 29) rfl))) (mvT hZ (hw _ (List.mem_of_getElem? (i := 28) rfl))) (by decide) (backOf (W := 0) (rm5 l Z a0 hw [] b6 (f4 (f4 (0 : Int64) q1) q2) T22.heap n0 Zs26 qp22_3) hZ (hw _ (List.mem_of_getElem? (i := 30) rfl)) (hw _ (List.mem_of_getElem? (i := 2) rfl)) (by decide) (by decide)) q23a q23c (g := (mkF m 117 #[.val (.long q1), .second, .val (.long q2), .second, .val (.int p3), .val (.long q4), .second, .val (.int p5), .val (.ref b6), .val (.int (0 : Int32)), .val (.ref b6), .val (.long (q1 + q2)), .second, .val (.int (0 : Int32)), .val (.ref b6)] [(.ref b6)])) rfl (by rw [hml]; rfl) (Steps.refl _) (argsL := []) (rest := []) (lenOf pd_0_3 rfl) rfl (by show 2 * 0 + _ ≤ _; exact Nat.le_of_eq rfl) (hb hby at_117) (fun _ _ => ⟨rfl, rfl, (by decide : 3 + 0 ≤ _), (by decide : 20 + 0 ≤ _)⟩)
        dsimp only [Pt.U, Pt.locs, Pt.cells, Pt.slots] at X23 l23 y23 z23 st23 hQ23
        subst l23 y23 z23
        obtain ⟨rfl, N23q, e23⟩ := hQ23
        have N23 := Fr.app N22 N23q
        have pre27 : ∀ t, Steps p.tables e below (T23.setTop (mkF m 123 #[.val (.long q1), .second, .val (.long q2), .second, .val (.int p3), .val (.long q4), .second, .val (.int p5), .val (.ref b6), .val (.int (0 : Int32)), .val (.ref b6), .val (.long (q1 + q2)), .second, .val (.int (0 : Int32)), .val (.ref b6)] [(.int (lcmpW (f4 (f4 (0 : Int64) q1) q2) (q1 + q2)))])) t → Steps p.tables e below (s₁.setTop (entryFrame m #[(.long q1), (.long q2), (.int p3), (.long q4), (.int p5)] maxLocals)) t := fun t kt => by
          refine pre19 _ ?_
          show Steps p.tables e below (T13.setTop (mkF m 83 #[.val (.long q1), .second, .val (.long q2), .second, .val (.int p3), .val (.long q4), .second, .val (.int p5), .val (.ref b6), .val (.int (0 : Int32)), .val (.ref b6), .val (.long (q1 + q2)), .second, .unset, .unset] [(.int (lcmpW ((q1 ^^^ (q1 + q2)) &&& (q2 ^^^ (q1 + q2))) (0 : Int64)))])) _
          refine XS.ifYes X13.here hx rfl (pc0 := 83) (pc' := 90) rfl (hb hby at_83) rfl ((if0 _ _).trans (flt (mt (lw_lt _ _).mp hc20)).2.1) (by decide) (by decide) ?_
          show Steps p.tables e below (T13.setTop (mkF m 90 _ [])) _
          refine XS.iconst X13.here hx rfl (hb hby at_90) ?_
          show Steps p.tables e below (T13.setTop (mkF m 91 _ [(.int (0 : Int32))])) _
          refine XS.istore X13.here hx rfl (hb hby at_91) rfl (l' := #[.val (.long q1), .second, .val (.long q2), .second, .val (.int p3), .val (.long q4), .second, .val (.int p5), .val (.ref b6), .val (.int (0 : Int32)), .val (.ref b6), .val (.long (q1 + q2)), .second, .val (.int (0 : Int32)), .unset]) rfl ?_
          show Steps p.tables e below (T13.setTop (mkF m 93 _ [])) _
          refine XS.iload X13.here hx rfl (hb hby at_93) rfl ?_
          show Steps p.tables e below (T13.setTop (mkF m 95 _ [(.int (0 : Int32))])) _
          refine XS.ifNo X13.here hx rfl (hb hby at_95) rfl ((if0 _ _).trans (teq (by decide)).2) ?_
          show Steps p.tables e below (T13.setTop (mkF m 98 _ [])) _
          refine XS.aload X13.here hx rfl (hb hby at_98) rfl rfl ?_
          show Steps p.tables e below (T13.setTop (mkF m 100 _ [(.ref b6)])) _
          refine XS.lloadN X13.here hx rfl (hb hby at_100) rfl ?_
          show Steps p.tables e below (T13.setTop (mkF m 101 _ [(.long q2), (.ref b6)])) _
          refine st22.trans ?_
          show Steps p.tables e below (T22.setTop (mkF m 104 _ [(.ref b6)])) _
          refine XS.astore X22.here hx rfl (hb hby at_104) rfl rfl (l' := #[.val (.long q1), .second, .val (.long q2), .second, .val (.int p3), .val (.long q4), .second, .val (.int p5), .val (.ref b6), .val (.int (0 : Int32)), .val (.ref b6), .val (.long (q1 + q2)), .second, .val (.int (0 : Int32)), .val (.ref b6)]) rfl ?_
          show Steps p.tables e below (T22.setTop (mkF m 106 _ [])) _
          refine XS.aload X22.here hx rfl (hb hby at_106) rfl rfl ?_
          show Steps p.tables e below (T22.setTop (mkF m 108 _ [(.ref b6)])) _
          refine XS.aload X22.here hx rfl (hb hby at_108) rfl rfl ?_
          show Steps p.tables e below (T22.setTop (mkF m 110 _ [(.ref b6), (.ref b6)])) _
          refine Jvm.RoadKit.acmp (g := (mkF m 110 #[.val (.long q1), .second, .val (.long q2), .second, .val (.int p3), .val (.long q4), .second, .val (.int p5), .val (.ref b6), .val (.int (0 : Int32)), .val (.ref b6), .val (.long (q1 + q2)), .second, .val (.int (0 : Int32)), .val (.ref b6)] [(.ref b6), (.ref b6)])) X22 hx rfl rfl rfl (pc0 := 110) (pc' := 115) (same := true) rfl (hb hby at_110) rfl (decide_eq_true (congrArg Value.ref rfl)) (by decide) (by decide) ?_
          show Steps p.tables e below (T22.setTop (mkF m 115 _ [])) _
          refine XS.aload X22.here hx rfl (hb hby at_115) rfl rfl ?_
          show Steps p.tables e below (T22.setTop (mkF m 117 _ [(.ref b6)])) _
          refine st23.trans ?_
          show Steps p.tables e below (T23.setTop (mkF m 120 _ [(.long (f4 (f4 (0 : Int64) q1) q2))])) _
          refine XS.lload X23.here hx rfl (hb hby at_120) rfl ?_
          show Steps p.tables e below (T23.setTop (mkF m 122 _ [(.long (q1 + q2)), (.long (f4 (f4 (0 : Int64) q1) q2))])) _
          refine XS.lcmp X23.here hx rfl (hb hby at_122) rfl ?_
          exact kt
        by_cases hc28 : (f4 (f4 (0 : Int64) q1) q2) = (q1 + q2)
        · skip
          obtain ⟨cq29, kq29, q29a, q29b, q29c⟩ := isOf hZ e23 qp22_0
          obtain ⟨_, _, ⟨T29, L29, k29, n29⟩, -, X29, ⟨Lc29, hQ29, l29, y29, z29⟩, st29⟩ := X23.virtualBack hx (y := (⟨"com/example/releve/releve/LinearExpression", "size", "()I"⟩ : MethodName)) (z := (⟨"com/example/releve/releve/LinearExpression", "size", "()I"⟩ : MethodName)) hown (mvT hZ (hw _ (List.mem_of_getElem? (i := 31) rfl))) (mvT hZ (hw _ (List.mem_of_getElem? (i := 32) rfl))) (notFace_of_selects (args := #[]) (mvT hZ (hw _ (List.mem_of_getElem? (i := 34) rfl)))) (mvT hZ (hw _ (List.mem_of_getElem? (i := 34) rfl))) (mvT hZ (hw _ (List.mem_of_getElem? (i := 33) rfl))) (by decide) (backOf (W := 0) (rm6 l Z a0 hw [] b6 (0 : Int32) T22.heap n0 Zs26 qp22_4) hZ (hw _ (List.mem_of_getElem? (i := 35) rfl)) (hw _ (List.mem_of_getElem? (i := 2) rfl)) (by decide) (by decide)) q29a q29c (g := (mkF m 142 #[.val (.long q1), .second, .val (.long q2), .second, .val (.int p3), .val (.long q4), .second, .val (.int p5), .val (.ref b6), .val (.int (0 : Int32)), .val (.ref b6), .val (.long (q1 + q2)), .second, .val (.int (0 : Int32)), .val (.int (0 : Int32))] [(.ref b6)])) rfl (by rw [hml]; rfl) (Steps.refl _) (argsL := []) (rest := []) (lenOf pd_0_4 rfl) rfl (by show 2 * 0 + _ ≤ _; exact Nat.le_of_eq rfl) (hb hby at_142) (fun _ _ => ⟨rfl, e23, (by decide : 3 + 0 ≤ _), (by decide : 20 + 0 ≤ _)⟩)
          dsimp only [Pt.U, Pt.locs, Pt.cells, Pt.slots] at X29 l29 y29 z29 st29 hQ29
          subst l29 y29 z29
          obtain ⟨rfl, N29q, e29⟩ := hQ29
          have N29 := Fr.app N23 N29q
          obtain ⟨fs, hr, hrun, hended, hW, hsame⟩ := X29.leave (v := some (.int (1 : Int32))) (fun h => by rw [Bd.returns] at h; cases h) (by first | exact BodyLoose.notSynchronized Bd | exact Body.notSynchronized Bd)
          refine ⟨_, _, pre27 _ ?_, hrun, hended, _, _, rfl, ?_, ⟨_, rfl⟩, hW, hsame.mono (by decide) (by decide)⟩
          · show Steps p.tables e below (T23.setTop (mkF m 123 #[.val (.long q1), .second, .val (.long q2), .second, .val (.int p3), .val (.long q4), .second, .val (.int p5), .val (.ref b6), .val (.int (0 : Int32)), .val (.ref b6), .val (.long (q1 + q2)), .second, .val (.int (0 : Int32)), .val (.ref b6)] [(.int (lcmpW (f4 (f4 (0 : Int64) q1) q2) (q1 + q2)))])) _
            refine XS.ifYes X23.here hx rfl (pc0 := 123) (pc' := 128) rfl (hb hby at_123) rfl ((if0 _ _).trans (teq ((lw_eq _ _).mpr hc28)).1) (by decide) (by decide) ?_
            show Steps p.tables e below (T23.setTop (mkF m 128 _ [])) _
            refine XS.iload X23.here hx rfl (hb hby at_128) rfl ?_
            show Steps p.tables e below (T23.setTop (mkF m 130 _ [(.int (0 : Int32))])) _
            refine XS.ifYes X23.here hx rfl (pc0 := 130) (pc' := 137) rfl (hb hby at_130) rfl ((if0 _ _).trans (teq (by decide)).1) (by decide) (by decide) ?_
            show Steps p.tables e below (T23.setTop (mkF m 137 _ [])) _
            refine XS.iconst X23.here hx rfl (hb hby at_137) ?_
            show Steps p.tables e below (T23.setTop (mkF m 138 _ [(.int (0 : Int32))])) _
            refine XS.istore X23.here hx rfl (hb hby at_138) rfl (l' := #[.val (.long q1), .second, .val (.long q2), .second, .val (.int p3), .val (.long q4), .second, .val (.int p5), .val (.ref b6), .val (.int (0 : Int32)), .val (.ref b6), .val (.long (q1 + q2)), .second, .val (.int (0 : Int32)), .val (.int (0 : Int32))]) rfl ?_
            show Steps p.tables e below (T23.setTop (mkF m 140 _ [])) _
            refine XS.aload X23.here hx rfl (hb hby at_140) rfl rfl ?_
            show Steps p.tables e below (T23.setTop (mkF m 142 _ [(.ref b6)])) _
            refine st29.trans ?_
            show Steps p.tables e below (T29.setTop (mkF m 145 _ [(.int (0 : Int32))])) _
            refine XS.iload X29.here hx rfl (hb hby at_145) rfl ?_
            show Steps p.tables e below (T29.setTop (mkF m 147 _ [(.int (0 : Int32)), (.int (0 : Int32))])) _
            refine XS.icmpYes X29.here hx rfl (pc0 := 147) (pc' := 152) rfl (hb hby at_147) rfl (teq (by decide)).1 (by decide) (by decide) ?_
            show Steps p.tables e below (T29.setTop (mkF m 152 _ [])) _
            refine XS.iload X29.here hx rfl (hb hby at_152) rfl ?_
            show Steps p.tables e below (T29.setTop (mkF m 154 _ [(.int (0 : Int32))])) _
            refine XS.ifYes X29.here hx rfl (pc0 := 154) (pc' := 182) rfl (hb hby at_154) rfl ((if0 _ _).trans (teq (by decide)).1) (by decide) (by decide) ?_
            show Steps p.tables e below (T29.setTop (mkF m 182 _ [])) _
            refine XS.iconst X29.here hx rfl (hb hby at_182) ?_
            show Steps p.tables e below (T29.setTop (mkF m 183 #[.val (.long q1), .second, .val (.long q2), .second, .val (.int p3), .val (.long q4), .second, .val (.int p5), .val (.ref b6), .val (.int (0 : Int32)), .val (.ref b6), .val (.long (q1 + q2)), .second, .val (.int (0 : Int32)), .val (.int (0 : Int32))] [(.int (1 : Int32))])) _
            exact retN X29 hx (t := .boolean) Bd.returns (by simp) (hb hby at_183) hr
          · show Q0 Z q1 q2 p3 q4 p5 h0 n0 _ T29.heap _
            rw [e29]
            exact ⟨congrArg (fun z => some (Value.int z)) (by rw [f0, if_pos hc10, if_pos hc18, if_neg hc20, if_pos hc28] : f0 q1 q2 p3 q4 p5 = (1 : Int32)).symm, N29⟩
        · skip
          obtain ⟨fs, hr, hrun, hended, hW, hsame⟩ := X23.leave (v := some (.int (0 : Int32))) (fun h => by rw [Bd.returns] at h; cases h) (by first | exact BodyLoose.notSynchronized Bd | exact Body.notSynchronized Bd)
          refine ⟨_, _, pre27 _ ?_, hrun, hended, _, _, rfl, ?_, ⟨_, rfl⟩, hW, hsame.mono (by decide) (by decide)⟩
          · show Steps p.tables e below (T23.setTop (mkF m 123 #[.val (.long q1), .second, .val (.long q2), .second, .val (.int p3), .val (.long q4), .second, .val (.int p5), .val (.ref b6), .val (.int (0 : Int32)), .val (.ref b6), .val (.long (q1 + q2)), .second, .val (.int (0 : Int32)), .val (.ref b6)] [(.int (lcmpW (f4 (f4 (0 : Int64) q1) q2) (q1 + q2)))])) _
            refine XS.ifNo X23.here hx rfl (hb hby at_123) rfl ((if0 _ _).trans (feq (mt (lw_eq _ _).mp hc28)).1) ?_
            show Steps p.tables e below (T23.setTop (mkF m 126 _ [])) _
            refine XS.iconst X23.here hx rfl (hb hby at_126) ?_
            show Steps p.tables e below (T23.setTop (mkF m 127 #[.val (.long q1), .second, .val (.long q2), .second, .val (.int p3), .val (.long q4), .second, .val (.int p5), .val (.ref b6), .val (.int (0 : Int32)), .val (.ref b6), .val (.long (q1 + q2)), .second, .val (.int (0 : Int32)), .val (.ref b6)] [(.int (0 : Int32))])) _
            exact retN X23 hx (t := .boolean) Bd.returns (by simp) (hb hby at_127) hr
          · show Q0 Z q1 q2 p3 q4 p5 h0 n0 _ T23.heap _
            rw [e23]
            exact ⟨congrArg (fun z => some (Value.int z)) (by rw [f0, if_pos hc10, if_pos hc18, if_neg hc20, if_neg hc28] : f0 q1 q2 p3 q4 p5 = (0 : Int32)).symm, N23⟩
    · skip
      obtain ⟨fs, hr, hrun, hended, hW, hsame⟩ := X13.leave (v := some (.int (0 : Int32))) (fun h => by rw [Bd.returns] at h; cases h) (by first | exact BodyLoose.notSynchronized Bd | exact Body.notSynchronized Bd)
      refine ⟨_, _, pre17 _ ?_, hrun, hended, _, _, rfl, ?_, ⟨_, rfl⟩, hW, hsame.mono (by decide) (by decide)⟩
      · show Steps p.tables e below (T13.setTop (mkF m 62 #[.val (.long q1), .second, .val (.long q2), .second, .val (.int p3), .val (.long q4), .second, .val (.int p5), .val (.ref b6), .val (.int (0 : Int32)), .val (.ref b6), .unset, .unset, .unset, .unset] [(.int (lcmpW (f4 (0 : Int64) q1) q1))])) _
        refine XS.ifNo X13.here hx rfl (hb hby at_62) rfl ((if0 _ _).trans (feq (mt (lw_eq _ _).mp hc18)).1) ?_
        show Steps p.tables e below (T13.setTop (mkF m 65 _ [])) _
        refine XS.iconst X13.here hx rfl (hb hby at_65) ?_
        show Steps p.tables e below (T13.setTop (mkF m 66 #[.val (.long q1), .second, .val (.long q2), .second, .val (.int p3), .val (.long q4), .second, .val (.int p5), .val (.ref b6), .val (.int (0 : Int32)), .val (.ref b6), .unset, .unset, .unset, .unset] [(.int (0 : Int32))])) _
        exact retN X13 hx (t := .boolean) Bd.returns (by simp) (hb hby at_66) hr
      · show Q0 Z q1 q2 p3 q4 p5 h0 n0 _ T13.heap _
        rw [e13]
        exact ⟨congrArg (fun z => some (Value.int z)) (by rw [f0, if_pos hc10, if_neg hc18] : f0 q1 q2 p3 q4 p5 = (0 : Int32)).symm, N13⟩
  · skip
    have Zs31 : n0 ≤ T7.heap.size := (Nat.le_trans Zs8 Kp7.1)
    obtain ⟨cq30, kq30, q30a, q30b, q30c⟩ := isOf hZ rfl qp7_0
    obtain ⟨_, _, ⟨T30, L30, k30, n30⟩, -, X30, ⟨Lc30, hQ30, l30, y30, z30⟩, st30⟩ := X7.virtualBack hx (y := (⟨"com/example/releve/releve/LinearExpression", "plus", "(IJ)Lcom/example/releve/releve/LinearExpression;"⟩ : MethodName)) (z := (⟨"com/example/releve/releve/LinearExpression", "plus", "(IJ)Lcom/example/releve/releve/LinearExpression;"⟩ : MethodName)) hown (mvT hZ (hw _ (List.mem_of_getElem? (i := 38) rfl))) (mvT hZ (hw _ (List.mem_of_getElem? (i := 39) rfl))) (notFace_of_selects (args := #[]) (mvT hZ (hw _ (List.mem_of_getElem? (i := 41) rfl)))) (mvT hZ (hw _ (List.mem_of_getElem? (i := 41) rfl))) (mvT hZ (hw _ (List.mem_of_getElem? (i := 40) rfl))) (by decide) (backOf (W := 0) (rm7 l Z a0 hw [] b6 p3 q4 b7_b3 b7_b17 (.long (0 : Int64)) k7_b3 k7_b17 T7.heap n0 Zs31 qp7_0 qp7_1 qp7_2 qp7_3 qp7_4 qp7_5 qp7_6 ne_b6_b7_b3 (Ne.symm nq7_0) g_b7_b3 ne_b6_b7_b17 g_b7_b17 g_b6) hZ (hw _ (List.mem_of_getElem? (i := 42) rfl)) (hw _ (List.mem_of_getElem? (i := 2) rfl)) (by decide) (by decide)) q30a q30c (g := (mkF m 34 #[.val (.long q1), .second, .val (.long q2), .second, .val (.int p3), .val (.long q4), .second, .val (.int p5), .val (.ref b6), .val (.int (1 : Int32)), .unset, .unset, .unset, .unset, .unset] [(.long q4), (.int p3), (.ref b6)])) rfl (by rw [hml]; rfl) (Steps.refl _) (argsL := [(.int p3), (.long q4)]) (rest := []) (lenOf pd_0_5 rfl) rfl (by show 2 * 0 + _ ≤ _; exact Nat.le_of_eq rfl) (hb hby at_34) (fun _ _ => ⟨rfl, rfl, (by decide : 3 + 0 ≤ _), (by decide : 20 + 0 ≤ _)⟩)
    dsimp only [Pt.U, Pt.locs, Pt.cells, Pt.slots] at X30 l30 y30 z30 st30 hQ30
    subst l30 y30 z30
    obtain ⟨rfl, N30q, Kp30, qp30_0, qp30_1, qp30_2, qp30_3, qp30_4, qp30_5, qp30_6⟩ := hQ30
    have N30 := Fr.app N7 N30q
    have Zs33 : n0 ≤ T30.heap.size := (Nat.le_trans Zs31 Kp30.1)
    obtain ⟨cq32, kq32, q32a, q32b, q32c⟩ := isOf hZ rfl qp30_0
    obtain ⟨_, _, ⟨T32, L32, k32, n32⟩, -, X32, ⟨Lc32, hQ32, l32, y32, z32⟩, st32⟩ := X30.virtualBack hx (y := (⟨"com/example/releve/releve/LinearExpression", "plusConstant", "(J)Lcom/example/releve/releve/LinearExpression;"⟩ : MethodName)) (z := (⟨"com/example/releve/releve/LinearExpression", "plusConstant", "(J)Lcom/example/releve/releve/LinearExpression;"⟩ : MethodName)) hown (mvT hZ (hw _ (List.mem_of_getElem? (i := 15) rfl))) (mvT hZ (hw _ (List.mem_of_getElem? (i := 16) rfl))) (notFace_of_selects (args := #[]) (mvT hZ (hw _ (List.mem_of_getElem? (i := 18) rfl)))) (mvT hZ (hw _ (List.mem_of_getElem? (i := 18) rfl))) (mvT hZ (hw _ (List.mem_of_getElem? (i := 17) rfl))) (by decide) (backOf (W := 0) (rm3 l Z a0 hw [] b6 q1 (.ref b7_b3) (.ref b7_b17) (0 : Int64) (.int ((0 : Int32) + (1 : Int32))) T30.heap n0 Zs33 (own_no0 q1) qp30_0 qp30_1 qp30_2 qp30_3 qp30_4 g_b6) hZ (hw _ (List.mem_of_getElem? (i := 19) rfl)) (hw _ (List.mem_of_getElem? (i := 2) rfl)) (by decide) (by decide)) q32a q32c (g := (mkF m 41 #[.val (.long q1), .second, .val (.long q2), .second, .val (.int p3), .val (.long q4), .second, .val (.int p5), .val (.ref b6), .val (.int (1 : Int32)), .unset, .unset, .unset, .unset, .unset] [(.long q1), (.ref b6)])) rfl (by rw [hml]; rfl) (Steps.refl _) (argsL := [(.long q1)]) (rest := []) (lenOf pd_0_1 rfl) rfl (by show 2 * 0 + _ ≤ _; exact Nat.le_of_eq rfl) (hb hby at_41) (fun _ _ => ⟨rfl, rfl, (by decide : 3 + 0 ≤ _), (by decide : 20 + 0 ≤ _)⟩)
    dsimp only [Pt.U, Pt.locs, Pt.cells, Pt.slots] at X32 l32 y32 z32 st32 hQ32
    subst l32 y32 z32
    obtain ⟨rfl, N32q, Kp32, qp32_0, qp32_1, qp32_2, qp32_3, qp32_4⟩ := hQ32
    have N32 := Fr.app N30 N32q
    have Av35 := (qp30_5.keep Kp32 (ninS (Ne.symm ne_b6_b7_b3) nin0))
    have Av36 := (qp30_6.keep Kp32 (ninS (Ne.symm ne_b6_b7_b17) nin0))
    have Zs37 : n0 ≤ T32.heap.size := (Nat.le_trans Zs33 Kp32.1)
    obtain ⟨cq34, kq34, q34a, q34b, q34c⟩ := isOf hZ rfl qp32_0
    obtain ⟨_, _, ⟨T34, L34, k34, n34⟩, -, X34, ⟨Lc34, hQ34, l34, y34, z34⟩, st34⟩ := X32.virtualBack hx (y := (⟨"com/example/releve/releve/LinearExpression", "constant", "()J"⟩ : MethodName)) (z := (⟨"com/example/releve/releve/LinearExpression", "constant", "()J"⟩ : MethodName)) hown (mvT hZ (hw _ (List.mem_of_getElem? (i := 26) rfl))) (mvT hZ (hw _ (List.mem_of_getElem? (i := 27) rfl))) (notFace_of_selects (args := #[]) (mvT hZ (hw _ (List.mem_of_getElem? (i := 29) rfl)))) (mvT hZ (hw _ (List.mem_of_getElem? (i := 29) rfl))) (mvT hZ (hw _ (List.mem_of_getElem? (i := 28) rfl))) (by decide) (backOf (W := 0) (rm5 l Z a0 hw [] b6 (f4 (0 : Int64) q1) T32.heap n0 Zs37 qp32_3) hZ (hw _ (List.mem_of_getElem? (i := 30) rfl)) (hw _ (List.mem_of_getElem? (i := 2) rfl)) (by decide) (by decide)) q34a q34c (g := (mkF m 57 #[.val (.long q1), .second, .val (.long q2), .second, .val (.int p3), .val (.long q4), .second, .val (.int p5), .val (.ref b6), .val (.int (1 : Int32)), .val (.ref b6), .unset, .unset, .unset, .unset] [(.ref b6)])) rfl (by rw [hml]; rfl) (Steps.refl _) (argsL := []) (rest := []) (lenOf pd_0_3 rfl) rfl (by show 2 * 0 + _ ≤ _; exact Nat.le_of_eq rfl) (hb hby at_57) (fun _ _ => ⟨rfl, rfl, (by decide : 3 + 0 ≤ _), (by decide : 20 + 0 ≤ _)⟩)
    dsimp only [Pt.U, Pt.locs, Pt.cells, Pt.slots] at X34 l34 y34 z34 st34 hQ34
    subst l34 y34 z34
    obtain ⟨rfl, N34q, e34⟩ := hQ34
    have N34 := Fr.app N32 N34q
    have pre38 : ∀ t, Steps p.tables e below (T34.setTop (mkF m 62 #[.val (.long q1), .second, .val (.long q2), .second, .val (.int p3), .val (.long q4), .second, .val (.int p5), .val (.ref b6), .val (.int (1 : Int32)), .val (.ref b6), .unset, .unset, .unset, .unset] [(.int (lcmpW (f4 (0 : Int64) q1) q1))])) t → Steps p.tables e below (s₁.setTop (entryFrame m #[(.long q1), (.long q2), (.int p3), (.long q4), (.int p5)] maxLocals)) t := fun t kt => by
      refine pre9 _ ?_
      show Steps p.tables e below (T7.setTop (mkF m 13 #[.val (.long q1), .second, .val (.long q2), .second, .val (.int p3), .val (.long q4), .second, .val (.int p5), .val (.ref b6), .unset, .unset, .unset, .unset, .unset, .unset] [(.int (p5 &&& (1 : Int32)))])) _
      refine XS.ifNo X7.here hx rfl (hb hby at_13) rfl ((if0 _ _).trans (feq hc10).1) ?_
      show Steps p.tables e below (T7.setTop (mkF m 16 _ [])) _
      refine XS.iconst X7.here hx rfl (hb hby at_16) ?_
      show Steps p.tables e below (T7.setTop (mkF m 17 _ [(.int (1 : Int32))])) _
      refine XS.goto X7.here hx rfl (pc0 := 17) (pc' := 21) rfl (hb hby at_17) (by decide) (by decide) ?_
      show Steps p.tables e below (T7.setTop (mkF m 21 _ [(.int (1 : Int32))])) _
      refine XS.istore X7.here hx rfl (hb hby at_21) rfl (l' := #[.val (.long q1), .second, .val (.long q2), .second, .val (.int p3), .val (.long q4), .second, .val (.int p5), .val (.ref b6), .val (.int (1 : Int32)), .unset, .unset, .unset, .unset, .unset]) rfl ?_
      show Steps p.tables e below (T7.setTop (mkF m 23 _ [])) _
      refine XS.iload X7.here hx rfl (hb hby at_23) rfl ?_
      show Steps p.tables e below (T7.setTop (mkF m 25 _ [(.int (1 : Int32))])) _
      refine XS.ifNo X7.here hx rfl (hb hby at_25) rfl ((if0 _ _).trans (feq (by decide)).1) ?_
      show Steps p.tables e below (T7.setTop (mkF m 28 _ [])) _
      refine XS.aload X7.here hx rfl (hb hby at_28) rfl rfl ?_
      show Steps p.tables e below (T7.setTop (mkF m 30 _ [(.ref b6)])) _
      refine XS.iload X7.here hx rfl (hb hby at_30) rfl ?_
      show Steps p.tables e below (T7.setTop (mkF m 32 _ [(.int p3), (.ref b6)])) _
      refine XS.lload X7.here hx rfl (hb hby at_32) rfl ?_
      show Steps p.tables e below (T7.setTop (mkF m 34 _ [(.long q4), (.int p3), (.ref b6)])) _
      refine st30.trans ?_
      show Steps p.tables e below (T30.setTop (mkF m 37 _ [(.ref b6)])) _
      refine XS.pop X30.here hx rfl (hb hby at_37) rfl rfl ?_
      show Steps p.tables e below (T30.setTop (mkF m 38 _ [])) _
      refine XS.aload X30.here hx rfl (hb hby at_38) rfl rfl ?_
      show Steps p.tables e below (T30.setTop (mkF m 40 _ [(.ref b6)])) _
      refine XS.lloadN X30.here hx rfl (hb hby at_40) rfl ?_
      show Steps p.tables e below (T30.setTop (mkF m 41 _ [(.long q1), (.ref b6)])) _
      refine st32.trans ?_
      show Steps p.tables e below (T32.setTop (mkF m 44 _ [(.ref b6)])) _
      refine XS.astore X32.here hx rfl (hb hby at_44) rfl rfl (l' := #[.val (.long q1), .second, .val (.long q2), .second, .val (.int p3), .val (.long q4), .second, .val (.int p5), .val (.ref b6), .val (.int (1 : Int32)), .val (.ref b6), .unset, .unset, .unset, .unset]) rfl ?_
      show Steps p.tables e below (T32.setTop (mkF m 46 _ [])) _
      refine XS.aload X32.here hx rfl (hb hby at_46) rfl rfl ?_
      show Steps p.tables e below (T32.setTop (mkF m 48 _ [(.ref b6)])) _
      refine XS.aload X32.here hx rfl (hb hby at_48) rfl rfl ?_
      show Steps p.tables e below (T32.setTop (mkF m 50 _ [(.ref b6), (.ref b6)])) _
      refine Jvm.RoadKit.acmp (g := (mkF m 50 #[.val (.long q1), .second, .val (.long q2), .second, .val (.int p3), .val (.long q4), .second, .val (.int p5), .val (.ref b6), .val (.int (1 : Int32)), .val (.ref b6), .unset, .unset, .unset, .unset] [(.ref b6), (.ref b6)])) X32 hx rfl rfl rfl (pc0 := 50) (pc' := 55) (same := true) rfl (hb hby at_50) rfl (decide_eq_true (congrArg Value.ref rfl)) (by decide) (by decide) ?_
      show Steps p.tables e below (T32.setTop (mkF m 55 _ [])) _
      refine XS.aload X32.here hx rfl (hb hby at_55) rfl rfl ?_
      show Steps p.tables e below (T32.setTop (mkF m 57 _ [(.ref b6)])) _
      refine st34.trans ?_
      show Steps p.tables e below (T34.setTop (mkF m 60 _ [(.long (f4 (0 : Int64) q1))])) _
      refine XS.lloadN X34.here hx rfl (hb hby at_60) rfl ?_
      show Steps p.tables e below (T34.setTop (mkF m 61 _ [(.long q1), (.long (f4 (0 : Int64) q1))])) _
      refine XS.lcmp X34.here hx rfl (hb hby at_61) rfl ?_
      exact kt
    by_cases hc39 : (f4 (0 : Int64) q1) = q1
    · skip
      have pre40 : ∀ t, Steps p.tables e below (T34.setTop (mkF m 83 #[.val (.long q1), .second, .val (.long q2), .second, .val (.int p3), .val (.long q4), .second, .val (.int p5), .val (.ref b6), .val (.int (1 : Int32)), .val (.ref b6), .val (.long (q1 + q2)), .second, .unset, .unset] [(.int (lcmpW ((q1 ^^^ (q1 + q2)) &&& (q2 ^^^ (q1 + q2))) (0 : Int64)))])) t → Steps p.tables e below (s₁.setTop (entryFrame m #[(.long q1), (.long q2), (.int p3), (.long q4), (.int p5)] maxLocals)) t := fun t kt => by
        refine pre38 _ ?_
        show Steps p.tables e below (T34.setTop (mkF m 62 #[.val (.long q1), .second, .val (.long q2), .second, .val (.int p3), .val (.long q4), .second, .val (.int p5), .val (.ref b6), .val (.int (1 : Int32)), .val (.ref b6), .unset, .unset, .unset, .unset] [(.int (lcmpW (f4 (0 : Int64) q1) q1))])) _
        refine XS.ifYes X34.here hx rfl (pc0 := 62) (pc' := 67) rfl (hb hby at_62) rfl ((if0 _ _).trans (teq ((lw_eq _ _).mpr hc39)).1) (by decide) (by decide) ?_
        show Steps p.tables e below (T34.setTop (mkF m 67 _ [])) _
        refine XS.lloadN X34.here hx rfl (hb hby at_67) rfl ?_
        show Steps p.tables e below (T34.setTop (mkF m 68 _ [(.long q1)])) _
        refine XS.lloadN X34.here hx rfl (hb hby at_68) rfl ?_
        show Steps p.tables e below (T34.setTop (mkF m 69 _ [(.long q2), (.long q1)])) _
        refine XS.ladd X34.here hx rfl (hb hby at_69) rfl ?_
        show Steps p.tables e below (T34.setTop (mkF m 70 _ [(.long (q1 + q2))])) _
        refine XS.lstore X34.here hx rfl (hb hby at_70) rfl (l' := #[.val (.long q1), .second, .val (.long q2), .second, .val (.int p3), .val (.long q4), .second, .val (.int p5), .val (.ref b6), .val (.int (1 : Int32)), .val (.ref b6), .val (.long (q1 + q2)), .second, .unset, .unset]) rfl ?_
        show Steps p.tables e below (T34.setTop (mkF m 72 _ [])) _
        refine XS.lloadN X34.here hx rfl (hb hby at_72) rfl ?_
        show Steps p.tables e below (T34.setTop (mkF m 73 _ [(.long q1)])) _
        refine XS.lload X34.here hx rfl (hb hby at_73) rfl ?_
        show Steps p.tables e below (T34.setTop (mkF m 75 _ [(.long (q1 + q2)), (.long q1)])) _
        refine XS.lxor X34.here hx rfl (hb hby at_75) rfl ?_
        show Steps p.tables e below (T34.setTop (mkF m 76 _ [(.long (q1 ^^^ (q1 + q2)))])) _
        refine XS.lloadN X34.here hx rfl (hb hby at_76) rfl ?_
        show Steps p.tables e below (T34.setTop (mkF m 77 _ [(.long q2), (.long (q1 ^^^ (q1 + q2)))])) _
        refine XS.lload X34.here hx rfl (hb hby at_77) rfl ?_
        show Steps p.tables e below (T34.setTop (mkF m 79 _ [(.long (q1 + q2)), (.long q2), (.long (q1 ^^^ (q1 + q2)))])) _
        refine XS.lxor X34.here hx rfl (hb hby at_79) rfl ?_
        show Steps p.tables e below (T34.setTop (mkF m 80 _ [(.long (q2 ^^^ (q1 + q2))), (.long (q1 ^^^ (q1 + q2)))])) _
        refine XS.land X34.here hx rfl (hb hby at_80) rfl ?_
        show Steps p.tables e below (T34.setTop (mkF m 81 _ [(.long ((q1 ^^^ (q1 + q2)) &&& (q2 ^^^ (q1 + q2))))])) _
        refine XS.lconst X34.here hx rfl (hb hby at_81) ?_
        show Steps p.tables e below (T34.setTop (mkF m 82 _ [(.long (0 : Int64)), (.long ((q1 ^^^ (q1 + q2)) &&& (q2 ^^^ (q1 + q2))))])) _
        refine XS.lcmp X34.here hx rfl (hb hby at_82) rfl ?_
        exact kt
      by_cases hc41 : ((q1 ^^^ (q1 + q2)) &&& (q2 ^^^ (q1 + q2))) < (0 : Int64)
      · skip
        obtain ⟨cq42, kq42, q42a, q42b, q42c⟩ := isOf hZ e34 qp32_0
        obtain ⟨_, _, ⟨T42, L42, k42, n42⟩, -, X42, ⟨Lc42, hQ42, l42, y42, z42⟩, st42⟩ := X34.virtualBack hx (y := (⟨"com/example/releve/releve/LinearExpression", "size", "()I"⟩ : MethodName)) (z := (⟨"com/example/releve/releve/LinearExpression", "size", "()I"⟩ : MethodName)) hown (mvT hZ (hw _ (List.mem_of_getElem? (i := 31) rfl))) (mvT hZ (hw _ (List.mem_of_getElem? (i := 32) rfl))) (notFace_of_selects (args := #[]) (mvT hZ (hw _ (List.mem_of_getElem? (i := 34) rfl)))) (mvT hZ (hw _ (List.mem_of_getElem? (i := 34) rfl))) (mvT hZ (hw _ (List.mem_of_getElem? (i := 33) rfl))) (by decide) (backOf (W := 0) (rm6 l Z a0 hw [] b6 ((0 : Int32) + (1 : Int32)) T32.heap n0 Zs37 qp32_4) hZ (hw _ (List.mem_of_getElem? (i := 35) rfl)) (hw _ (List.mem_of_getElem? (i := 2) rfl)) (by decide) (by decide)) q42a q42c (g := (mkF m 142 #[.val (.long q1), .second, .val (.long q2), .second, .val (.int p3), .val (.long q4), .second, .val (.int p5), .val (.ref b6), .val (.int (1 : Int32)), .val (.ref b6), .val (.long (q1 + q2)), .second, .val (.int (1 : Int32)), .val (.int (1 : Int32))] [(.ref b6)])) rfl (by rw [hml]; rfl) (Steps.refl _) (argsL := []) (rest := []) (lenOf pd_0_4 rfl) rfl (by show 2 * 0 + _ ≤ _; exact Nat.le_of_eq rfl) (hb hby at_142) (fun _ _ => ⟨rfl, e34, (by decide : 3 + 0 ≤ _), (by decide : 20 + 0 ≤ _)⟩)
        dsimp only [Pt.U, Pt.locs, Pt.cells, Pt.slots] at X42 l42 y42 z42 st42 hQ42
        subst l42 y42 z42
        obtain ⟨rfl, N42q, e42⟩ := hQ42
        have N42 := Fr.app N34 N42q
        have pre43 : ∀ t, Steps p.tables e below (T42.setTop (mkF m 147 #[.val (.long q1), .second, .val (.long q2), .second, .val (.int p3), .val (.long q4), .second, .val (.int p5), .val (.ref b6), .val (.int (1 : Int32)), .val (.ref b6), .val (.long (q1 + q2)), .second, .val (.int (1 : Int32)), .val (.int (1 : Int32))] [(.int (1 : Int32)), (.int ((0 : Int32) + (1 : Int32)))])) t → Steps p.tables e below (s₁.setTop (entryFrame m #[(.long q1), (.long q2), (.int p3), (.long q4), (.int p5)] maxLocals)) t := fun t kt => by
          refine pre40 _ ?_
          show Steps p.tables e below (T34.setTop (mkF m 83 #[.val (.long q1), .second, .val (.long q2), .second, .val (.int p3), .val (.long q4), .second, .val (.int p5), .val (.ref b6), .val (.int (1 : Int32)), .val (.ref b6), .val (.long (q1 + q2)), .second, .unset, .unset] [(.int (lcmpW ((q1 ^^^ (q1 + q2)) &&& (q2 ^^^ (q1 + q2))) (0 : Int64)))])) _
          refine XS.ifNo X34.here hx rfl (hb hby at_83) rfl ((if0 _ _).trans (tlt ((lw_lt _ _).mpr hc41)).2.1) ?_
          show Steps p.tables e below (T34.setTop (mkF m 86 _ [])) _
          refine XS.iconst X34.here hx rfl (hb hby at_86) ?_
          show Steps p.tables e below (T34.setTop (mkF m 87 _ [(.int (1 : Int32))])) _
          refine XS.goto X34.here hx rfl (pc0 := 87) (pc' := 91) rfl (hb hby at_87) (by decide) (by decide) ?_
          show Steps p.tables e below (T34.setTop (mkF m 91 _ [(.int (1 : Int32))])) _
          refine XS.istore X34.here hx rfl (hb hby at_91) rfl (l' := #[.val (.long q1), .second, .val (.long q2), .second, .val (.int p3), .val (.long q4), .second, .val (.int p5), .val (.ref b6), .val (.int (1 : Int32)), .val (.ref b6), .val (.long (q1 + q2)), .second, .val (.int (1 : Int32)), .unset]) rfl ?_
          show Steps p.tables e below (T34.setTop (mkF m 93 _ [])) _
          refine XS.iload X34.here hx rfl (hb hby at_93) rfl ?_
          show Steps p.tables e below (T34.setTop (mkF m 95 _ [(.int (1 : Int32))])) _
          refine XS.ifYes X34.here hx rfl (pc0 := 95) (pc' := 128) rfl (hb hby at_95) rfl ((if0 _ _).trans (feq (by decide)).2) (by decide) (by decide) ?_
          show Steps p.tables e below (T34.setTop (mkF m 128 _ [])) _
          refine XS.iload X34.here hx rfl (hb hby at_128) rfl ?_
          show Steps p.tables e below (T34.setTop (mkF m 130 _ [(.int (1 : Int32))])) _
          refine XS.ifNo X34.here hx rfl (hb hby at_130) rfl ((if0 _ _).trans (feq (by decide)).1) ?_
          show Steps p.tables e below (T34.setTop (mkF m 133 _ [])) _
          refine XS.iconst X34.here hx rfl (hb hby at_133) ?_
          show Steps p.tables e below (T34.setTop (mkF m 134 _ [(.int (1 : Int32))])) _
          refine XS.goto X34.here hx rfl (pc0 := 134) (pc' := 138) rfl (hb hby at_134) (by decide) (by decide) ?_
          show Steps p.tables e below (T34.setTop (mkF m 138 _ [(.int (1 : Int32))])) _
          refine XS.istore X34.here hx rfl (hb hby at_138) rfl (l' := #[.val (.long q1), .second, .val (.long q2), .second, .val (.int p3), .val (.long q4), .second, .val (.int p5), .val (.ref b6), .val (.int (1 : Int32)), .val (.ref b6), .val (.long (q1 + q2)), .second, .val (.int (1 : Int32)), .val (.int (1 : Int32))]) rfl ?_
          show Steps p.tables e below (T34.setTop (mkF m 140 _ [])) _
          refine XS.aload X34.here hx rfl (hb hby at_140) rfl rfl ?_
          show Steps p.tables e below (T34.setTop (mkF m 142 _ [(.ref b6)])) _
          refine st42.trans ?_
          show Steps p.tables e below (T42.setTop (mkF m 145 _ [(.int ((0 : Int32) + (1 : Int32)))])) _
          refine XS.iload X42.here hx rfl (hb hby at_145) rfl ?_
          exact kt
        by_cases hc44 : ((0 : Int32) + (1 : Int32)) = (1 : Int32)
        · skip
          obtain ⟨cq45, kq45, q45a, q45b, q45c⟩ := isOf hZ e42 qp32_0
          obtain ⟨_, _, ⟨T45, L45, k45, n45⟩, -, X45, ⟨Lc45, hQ45, l45, y45, z45⟩, st45⟩ := X42.virtualBack hx (y := (⟨"com/example/releve/releve/LinearExpression", "variable", "(I)I"⟩ : MethodName)) (z := (⟨"com/example/releve/releve/LinearExpression", "variable", "(I)I"⟩ : MethodName)) hown (mvT hZ (hw _ (List.mem_of_getElem? (i := 43) rfl))) (mvT hZ (hw _ (List.mem_of_getElem? (i := 44) rfl))) (notFace_of_selects (args := #[]) (mvT hZ (hw _ (List.mem_of_getElem? (i := 46) rfl)))) (mvT hZ (hw _ (List.mem_of_getElem? (i := 46) rfl))) (mvT hZ (hw _ (List.mem_of_getElem? (i := 45) rfl))) (by decide) (backOf (W := 0) (rm8 l Z a0 hw [] b6 (0 : Int32) b7_b3 k7_b3 [p3, (0 : Int32), (0 : Int32), (0 : Int32), (0 : Int32), (0 : Int32), (0 : Int32), (0 : Int32)] (8 : Int32) T32.heap n0 Zs37 qp32_1 Av35 ⟨by decide, by decide⟩) hZ (hw _ (List.mem_of_getElem? (i := 47) rfl)) (hw _ (List.mem_of_getElem? (i := 2) rfl)) (by decide) (by decide)) q45a q45c (g := (mkF m 160 #[.val (.long q1), .second, .val (.long q2), .second, .val (.int p3), .val (.long q4), .second, .val (.int p5), .val (.ref b6), .val (.int (1 : Int32)), .val (.ref b6), .val (.long (q1 + q2)), .second, .val (.int (1 : Int32)), .val (.int (1 : Int32))] [(.int (0 : Int32)), (.ref b6)])) rfl (by rw [hml]; rfl) (Steps.refl _) (argsL := [(.int (0 : Int32))]) (rest := []) (lenOf pd_0_6 rfl) rfl (by show 2 * 0 + _ ≤ _; exact Nat.le_of_eq rfl) (hb hby at_160) (fun _ _ => ⟨rfl, e42, (by decide : 3 + 0 ≤ _), (by decide : 20 + 0 ≤ _)⟩)
          dsimp only [Pt.U, Pt.locs, Pt.cells, Pt.slots] at X45 l45 y45 z45 st45 hQ45
          subst l45 y45 z45
          obtain ⟨rfl, N45q, e45⟩ := hQ45
          have N45 := Fr.app N42 N45q
          have pre46 : ∀ t, Steps p.tables e below (T45.setTop (mkF m 165 #[.val (.long q1), .second, .val (.long q2), .second, .val (.int p3), .val (.long q4), .second, .val (.int p5), .val (.ref b6), .val (.int (1 : Int32)), .val (.ref b6), .val (.long (q1 + q2)), .second, .val (.int (1 : Int32)), .val (.int (1 : Int32))] [(.int p3), (.int (f8 (0 : Int32) [p3, (0 : Int32), (0 : Int32), (0 : Int32), (0 : Int32), (0 : Int32), (0 : Int32), (0 : Int32)]))])) t → Steps p.tables e below (s₁.setTop (entryFrame m #[(.long q1), (.long q2), (.int p3), (.long q4), (.int p5)] maxLocals)) t := fun t kt => by
            refine pre43 _ ?_
            show Steps p.tables e below (T42.setTop (mkF m 147 #[.val (.long q1), .second, .val (.long q2), .second, .val (.int p3), .val (.long q4), .second, .val (.int p5), .val (.ref b6), .val (.int (1 : Int32)), .val (.ref b6), .val (.long (q1 + q2)), .second, .val (.int (1 : Int32)), .val (.int (1 : Int32))] [(.int (1 : Int32)), (.int ((0 : Int32) + (1 : Int32)))])) _
            refine XS.icmpYes X42.here hx rfl (pc0 := 147) (pc' := 152) rfl (hb hby at_147) rfl (teq hc44).1 (by decide) (by decide) ?_
            show Steps p.tables e below (T42.setTop (mkF m 152 _ [])) _
            refine XS.iload X42.here hx rfl (hb hby at_152) rfl ?_
            show Steps p.tables e below (T42.setTop (mkF m 154 _ [(.int (1 : Int32))])) _
            refine XS.ifNo X42.here hx rfl (hb hby at_154) rfl ((if0 _ _).trans (feq (by decide)).1) ?_
            show Steps p.tables e below (T42.setTop (mkF m 157 _ [])) _
            refine XS.aload X42.here hx rfl (hb hby at_157) rfl rfl ?_
            show Steps p.tables e below (T42.setTop (mkF m 159 _ [(.ref b6)])) _
            refine XS.iconst X42.here hx rfl (hb hby at_159) ?_
            show Steps p.tables e below (T42.setTop (mkF m 160 _ [(.int (0 : Int32)), (.ref b6)])) _
            refine st45.trans ?_
            show Steps p.tables e below (T45.setTop (mkF m 163 _ [(.int (f8 (0 : Int32) [p3, (0 : Int32), (0 : Int32), (0 : Int32), (0 : Int32), (0 : Int32), (0 : Int32), (0 : Int32)]))])) _
            refine XS.iload X45.here hx rfl (hb hby at_163) rfl ?_
            exact kt
          by_cases hc47 : (f8 (0 : Int32) [p3, (0 : Int32), (0 : Int32), (0 : Int32), (0 : Int32), (0 : Int32), (0 : Int32), (0 : Int32)]) = p3
          · skip
            obtain ⟨cq48, kq48, q48a, q48b, q48c⟩ := isOf hZ e45 qp32_0
            obtain ⟨_, _, ⟨T48, L48, k48, n48⟩, -, X48, ⟨Lc48, hQ48, l48, y48, z48⟩, st48⟩ := X45.virtualBack hx (y := (⟨"com/example/releve/releve/LinearExpression", "coefficient", "(I)J"⟩ : MethodName)) (z := (⟨"com/example/releve/releve/LinearExpression", "coefficient", "(I)J"⟩ : MethodName)) hown (mvT hZ (hw _ (List.mem_of_getElem? (i := 48) rfl))) (mvT hZ (hw _ (List.mem_of_getElem? (i := 49) rfl))) (notFace_of_selects (args := #[]) (mvT hZ (hw _ (List.mem_of_getElem? (i := 51) rfl)))) (mvT hZ (hw _ (List.mem_of_getElem? (i := 51) rfl))) (mvT hZ (hw _ (List.mem_of_getElem? (i := 50) rfl))) (by decide) (backOf (W := 0) (rm9 l Z a0 hw [] b6 (0 : Int32) b7_b17 k7_b17 [q4, (0 : Int64), (0 : Int64), (0 : Int64), (0 : Int64), (0 : Int64), (0 : Int64), (0 : Int64)] (8 : Int32) T32.heap n0 Zs37 qp32_2 Av36 ⟨by decide, by decide⟩) hZ (hw _ (List.mem_of_getElem? (i := 52) rfl)) (hw _ (List.mem_of_getElem? (i := 2) rfl)) (by decide) (by decide)) q48a q48c (g := (mkF m 171 #[.val (.long q1), .second, .val (.long q2), .second, .val (.int p3), .val (.long q4), .second, .val (.int p5), .val (.ref b6), .val (.int (1 : Int32)), .val (.ref b6), .val (.long (q1 + q2)), .second, .val (.int (1 : Int32)), .val (.int (1 : Int32))] [(.int (0 : Int32)), (.ref b6)])) rfl (by rw [hml]; rfl) (Steps.refl _) (argsL := [(.int (0 : Int32))]) (rest := []) (lenOf pd_0_7 rfl) rfl (by show 2 * 0 + _ ≤ _; exact Nat.le_of_eq rfl) (hb hby at_171) (fun _ _ => ⟨rfl, e45, (by decide : 3 + 0 ≤ _), (by decide : 20 + 0 ≤ _)⟩)
            dsimp only [Pt.U, Pt.locs, Pt.cells, Pt.slots] at X48 l48 y48 z48 st48 hQ48
            subst l48 y48 z48
            obtain ⟨rfl, N48q, e48⟩ := hQ48
            have N48 := Fr.app N45 N48q
            have pre49 : ∀ t, Steps p.tables e below (T48.setTop (mkF m 177 #[.val (.long q1), .second, .val (.long q2), .second, .val (.int p3), .val (.long q4), .second, .val (.int p5), .val (.ref b6), .val (.int (1 : Int32)), .val (.ref b6), .val (.long (q1 + q2)), .second, .val (.int (1 : Int32)), .val (.int (1 : Int32))] [(.int (lcmpW (f9 (0 : Int32) [q4, (0 : Int64), (0 : Int64), (0 : Int64), (0 : Int64), (0 : Int64), (0 : Int64), (0 : Int64)]) q4))])) t → Steps p.tables e below (s₁.setTop (entryFrame m #[(.long q1), (.long q2), (.int p3), (.long q4), (.int p5)] maxLocals)) t := fun t kt => by
              refine pre46 _ ?_
              show Steps p.tables e below (T45.setTop (mkF m 165 #[.val (.long q1), .second, .val (.long q2), .second, .val (.int p3), .val (.long q4), .second, .val (.int p5), .val (.ref b6), .val (.int (1 : Int32)), .val (.ref b6), .val (.long (q1 + q2)), .second, .val (.int (1 : Int32)), .val (.int (1 : Int32))] [(.int p3), (.int (f8 (0 : Int32) [p3, (0 : Int32), (0 : Int32), (0 : Int32), (0 : Int32), (0 : Int32), (0 : Int32), (0 : Int32)]))])) _
              refine XS.icmpNo X45.here hx rfl (hb hby at_165) rfl (teq hc47).2 ?_
              show Steps p.tables e below (T45.setTop (mkF m 168 _ [])) _
              refine XS.aload X45.here hx rfl (hb hby at_168) rfl rfl ?_
              show Steps p.tables e below (T45.setTop (mkF m 170 _ [(.ref b6)])) _
              refine XS.iconst X45.here hx rfl (hb hby at_170) ?_
              show Steps p.tables e below (T45.setTop (mkF m 171 _ [(.int (0 : Int32)), (.ref b6)])) _
              refine st48.trans ?_
              show Steps p.tables e below (T48.setTop (mkF m 174 _ [(.long (f9 (0 : Int32) [q4, (0 : Int64), (0 : Int64), (0 : Int64), (0 : Int64), (0 : Int64), (0 : Int64), (0 : Int64)]))])) _
              refine XS.lload X48.here hx rfl (hb hby at_174) rfl ?_
              show Steps p.tables e below (T48.setTop (mkF m 176 _ [(.long q4), (.long (f9 (0 : Int32) [q4, (0 : Int64), (0 : Int64), (0 : Int64), (0 : Int64), (0 : Int64), (0 : Int64), (0 : Int64)]))])) _
              refine XS.lcmp X48.here hx rfl (hb hby at_176) rfl ?_
              exact kt
            by_cases hc50 : (f9 (0 : Int32) [q4, (0 : Int64), (0 : Int64), (0 : Int64), (0 : Int64), (0 : Int64), (0 : Int64), (0 : Int64)]) = q4
            · skip
              obtain ⟨fs, hr, hrun, hended, hW, hsame⟩ := X48.leave (v := some (.int (1 : Int32))) (fun h => by rw [Bd.returns] at h; cases h) (by first | exact BodyLoose.notSynchronized Bd | exact Body.notSynchronized Bd)
              refine ⟨_, _, pre49 _ ?_, hrun, hended, _, _, rfl, ?_, ⟨_, rfl⟩, hW, hsame.mono (by decide) (by decide)⟩
              · show Steps p.tables e below (T48.setTop (mkF m 177 #[.val (.long q1), .second, .val (.long q2), .second, .val (.int p3), .val (.long q4), .second, .val (.int p5), .val (.ref b6), .val (.int (1 : Int32)), .val (.ref b6), .val (.long (q1 + q2)), .second, .val (.int (1 : Int32)), .val (.int (1 : Int32))] [(.int (lcmpW (f9 (0 : Int32) [q4, (0 : Int64), (0 : Int64), (0 : Int64), (0 : Int64), (0 : Int64), (0 : Int64), (0 : Int64)]) q4))])) _
                refine XS.ifYes X48.here hx rfl (pc0 := 177) (pc' := 182) rfl (hb hby at_177) rfl ((if0 _ _).trans (teq ((lw_eq _ _).mpr hc50)).1) (by decide) (by decide) ?_
                show Steps p.tables e below (T48.setTop (mkF m 182 _ [])) _
                refine XS.iconst X48.here hx rfl (hb hby at_182) ?_
                show Steps p.tables e below (T48.setTop (mkF m 183 #[.val (.long q1), .second, .val (.long q2), .second, .val (.int p3), .val (.long q4), .second, .val (.int p5), .val (.ref b6), .val (.int (1 : Int32)), .val (.ref b6), .val (.long (q1 + q2)), .second, .val (.int (1 : Int32)), .val (.int (1 : Int32))] [(.int (1 : Int32))])) _
                exact retN X48 hx (t := .boolean) Bd.returns (by simp) (hb hby at_183) hr
              · show Q0 Z q1 q2 p3 q4 p5 h0 n0 _ T48.heap _
                rw [e48]
                exact ⟨congrArg (fun z => some (Value.int z)) (by rw [f0, if_neg hc10, if_pos hc39, if_pos hc41, if_pos hc44, if_pos hc47, if_pos hc50] : f0 q1 q2 p3 q4 p5 = (1 : Int32)).symm, N48⟩
            · skip
              obtain ⟨fs, hr, hrun, hended, hW, hsame⟩ := X48.leave (v := some (.int (0 : Int32))) (fun h => by rw [Bd.returns] at h; cases h) (by first | exact BodyLoose.notSynchronized Bd | exact Body.notSynchronized Bd)
              refine ⟨_, _, pre49 _ ?_, hrun, hended, _, _, rfl, ?_, ⟨_, rfl⟩, hW, hsame.mono (by decide) (by decide)⟩
              · show Steps p.tables e below (T48.setTop (mkF m 177 #[.val (.long q1), .second, .val (.long q2), .second, .val (.int p3), .val (.long q4), .second, .val (.int p5), .val (.ref b6), .val (.int (1 : Int32)), .val (.ref b6), .val (.long (q1 + q2)), .second, .val (.int (1 : Int32)), .val (.int (1 : Int32))] [(.int (lcmpW (f9 (0 : Int32) [q4, (0 : Int64), (0 : Int64), (0 : Int64), (0 : Int64), (0 : Int64), (0 : Int64), (0 : Int64)]) q4))])) _
                refine XS.ifNo X48.here hx rfl (hb hby at_177) rfl ((if0 _ _).trans (feq (mt (lw_eq _ _).mp hc50)).1) ?_
                show Steps p.tables e below (T48.setTop (mkF m 180 _ [])) _
                refine XS.iconst X48.here hx rfl (hb hby at_180) ?_
                show Steps p.tables e below (T48.setTop (mkF m 181 #[.val (.long q1), .second, .val (.long q2), .second, .val (.int p3), .val (.long q4), .second, .val (.int p5), .val (.ref b6), .val (.int (1 : Int32)), .val (.ref b6), .val (.long (q1 + q2)), .second, .val (.int (1 : Int32)), .val (.int (1 : Int32))] [(.int (0 : Int32))])) _
                exact retN X48 hx (t := .boolean) Bd.returns (by simp) (hb hby at_181) hr
              · show Q0 Z q1 q2 p3 q4 p5 h0 n0 _ T48.heap _
                rw [e48]
                exact ⟨congrArg (fun z => some (Value.int z)) (by rw [f0, if_neg hc10, if_pos hc39, if_pos hc41, if_pos hc44, if_pos hc47, if_neg hc50] : f0 q1 q2 p3 q4 p5 = (0 : Int32)).symm, N48⟩
          · skip
            obtain ⟨fs, hr, hrun, hended, hW, hsame⟩ := X45.leave (v := some (.int (0 : Int32))) (fun h => by rw [Bd.returns] at h; cases h) (by first | exact BodyLoose.notSynchronized Bd | exact Body.notSynchronized Bd)
            refine ⟨_, _, pre46 _ ?_, hrun, hended, _, _, rfl, ?_, ⟨_, rfl⟩, hW, hsame.mono (by decide) (by decide)⟩
            · show Steps p.tables e below (T45.setTop (mkF m 165 #[.val (.long q1), .second, .val (.long q2), .second, .val (.int p3), .val (.long q4), .second, .val (.int p5), .val (.ref b6), .val (.int (1 : Int32)), .val (.ref b6), .val (.long (q1 + q2)), .second, .val (.int (1 : Int32)), .val (.int (1 : Int32))] [(.int p3), (.int (f8 (0 : Int32) [p3, (0 : Int32), (0 : Int32), (0 : Int32), (0 : Int32), (0 : Int32), (0 : Int32), (0 : Int32)]))])) _
              refine XS.icmpYes X45.here hx rfl (pc0 := 165) (pc' := 180) rfl (hb hby at_165) rfl (feq hc47).2 (by decide) (by decide) ?_
              show Steps p.tables e below (T45.setTop (mkF m 180 _ [])) _
              refine XS.iconst X45.here hx rfl (hb hby at_180) ?_
              show Steps p.tables e below (T45.setTop (mkF m 181 #[.val (.long q1), .second, .val (.long q2), .second, .val (.int p3), .val (.long q4), .second, .val (.int p5), .val (.ref b6), .val (.int (1 : Int32)), .val (.ref b6), .val (.long (q1 + q2)), .second, .val (.int (1 : Int32)), .val (.int (1 : Int32))] [(.int (0 : Int32))])) _
              exact retN X45 hx (t := .boolean) Bd.returns (by simp) (hb hby at_181) hr
            · show Q0 Z q1 q2 p3 q4 p5 h0 n0 _ T45.heap _
              rw [e45]
              exact ⟨congrArg (fun z => some (Value.int z)) (by rw [f0, if_neg hc10, if_pos hc39, if_pos hc41, if_pos hc44, if_neg hc47] : f0 q1 q2 p3 q4 p5 = (0 : Int32)).symm, N45⟩
        · skip
          obtain ⟨fs, hr, hrun, hended, hW, hsame⟩ := X42.leave (v := some (.int (0 : Int32))) (fun h => by rw [Bd.returns] at h; cases h) (by first | exact BodyLoose.notSynchronized Bd | exact Body.notSynchronized Bd)
          refine ⟨_, _, pre43 _ ?_, hrun, hended, _, _, rfl, ?_, ⟨_, rfl⟩, hW, hsame.mono (by decide) (by decide)⟩
          · show Steps p.tables e below (T42.setTop (mkF m 147 #[.val (.long q1), .second, .val (.long q2), .second, .val (.int p3), .val (.long q4), .second, .val (.int p5), .val (.ref b6), .val (.int (1 : Int32)), .val (.ref b6), .val (.long (q1 + q2)), .second, .val (.int (1 : Int32)), .val (.int (1 : Int32))] [(.int (1 : Int32)), (.int ((0 : Int32) + (1 : Int32)))])) _
            refine XS.icmpNo X42.here hx rfl (hb hby at_147) rfl (feq hc44).1 ?_
            show Steps p.tables e below (T42.setTop (mkF m 150 _ [])) _
            refine XS.iconst X42.here hx rfl (hb hby at_150) ?_
            show Steps p.tables e below (T42.setTop (mkF m 151 #[.val (.long q1), .second, .val (.long q2), .second, .val (.int p3), .val (.long q4), .second, .val (.int p5), .val (.ref b6), .val (.int (1 : Int32)), .val (.ref b6), .val (.long (q1 + q2)), .second, .val (.int (1 : Int32)), .val (.int (1 : Int32))] [(.int (0 : Int32))])) _
            exact retN X42 hx (t := .boolean) Bd.returns (by simp) (hb hby at_151) hr
          · show Q0 Z q1 q2 p3 q4 p5 h0 n0 _ T42.heap _
            rw [e42]
            exact ⟨congrArg (fun z => some (Value.int z)) (by rw [f0, if_neg hc10, if_pos hc39, if_pos hc41, if_neg hc44] : f0 q1 q2 p3 q4 p5 = (0 : Int32)).symm, N42⟩
      · skip
        obtain ⟨cq51, kq51, q51a, q51b, q51c⟩ := isOf hZ e34 qp32_0
        obtain ⟨_, _, ⟨T51, L51, k51, n51⟩, -, X51, ⟨Lc51, hQ51, l51, y51, z51⟩, st51⟩ := X34.virtualBack hx (y := (⟨"com/example/releve/releve/LinearExpression", "plusConstant", "(J)Lcom/example/releve/releve/LinearExpression;"⟩ : MethodName)) (z := (⟨"com/example/releve/releve/LinearExpression", "plusConstant", "(J)Lcom/example/releve/releve/LinearExpression;"⟩ : MethodName)) hown (mvT hZ (hw _ (List.mem_of_getElem? (i := 15) rfl))) (mvT hZ (hw _ (List.mem_of_getElem? (i := 16) rfl))) (notFace_of_selects (args := #[]) (mvT hZ (hw _ (List.mem_of_getElem? (i := 18) rfl)))) (mvT hZ (hw _ (List.mem_of_getElem? (i := 18) rfl))) (mvT hZ (hw _ (List.mem_of_getElem? (i := 17) rfl))) (by decide) (backOf (W := 0) (rm3 l Z a0 hw [] b6 q2 (.ref b7_b3) (.ref b7_b17) (f4 (0 : Int64) q1) (.int ((0 : Int32) + (1 : Int32))) T32.heap n0 Zs37 (own_no1 q1 q2 (by assumption)) qp32_0 qp32_1 qp32_2 qp32_3 qp32_4 g_b6) hZ (hw _ (List.mem_of_getElem? (i := 19) rfl)) (hw _ (List.mem_of_getElem? (i := 2) rfl)) (by decide) (by decide)) q51a q51c (g := (mkF m 101 #[.val (.long q1), .second, .val (.long q2), .second, .val (.int p3), .val (.long q4), .second, .val (.int p5), .val (.ref b6), .val (.int (1 : Int32)), .val (.ref b6), .val (.long (q1 + q2)), .second, .val (.int (0 : Int32)), .unset] [(.long q2), (.ref b6)])) rfl (by rw [hml]; rfl) (Steps.refl _) (argsL := [(.long q2)]) (rest := []) (lenOf pd_0_1 rfl) rfl (by show 2 * 0 + _ ≤ _; exact Nat.le_of_eq rfl) (hb hby at_101) (fun _ _ => ⟨rfl, e34, (by decide : 3 + 0 ≤ _), (by decide : 20 + 0 ≤ _)⟩)
        dsimp only [Pt.U, Pt.locs, Pt.cells, Pt.slots] at X51 l51 y51 z51 st51 hQ51
        subst l51 y51 z51
        obtain ⟨rfl, N51q, Kp51, qp51_0, qp51_1, qp51_2, qp51_3, qp51_4⟩ := hQ51
        have N51 := Fr.app N34 N51q
        have Av53 := (Av35.keep Kp51 (ninS (Ne.symm ne_b6_b7_b3) nin0))
        have Av54 := (Av36.keep Kp51 (ninS (Ne.symm ne_b6_b7_b17) nin0))
        have Zs55 : n0 ≤ T51.heap.size := (Nat.le_trans Zs37 Kp51.1)
        obtain ⟨cq52, kq52, q52a, q52b, q52c⟩ := isOf hZ rfl qp51_0
        obtain ⟨_, _, ⟨T52, L52, k52, n52⟩, -, X52, ⟨Lc52, hQ52, l52, y52, z52⟩, st52⟩ := X51.virtualBack hx (y := (⟨"com/example/releve/releve/LinearExpression", "constant", "()J"⟩ : MethodName)) (z := (⟨"com/example/releve/releve/LinearExpression", "constant", "()J"⟩ : MethodName)) hown (mvT hZ (hw _ (List.mem_of_getElem? (i := 26) rfl))) (mvT hZ (hw _ (List.mem_of_getElem? (i := 27) rfl))) (notFace_of_selects (args := #[]) (mvT hZ (hw _ (List.mem_of_getElem? (i := 29) rfl)))) (mvT hZ (hw _ (List.mem_of_getElem? (i := 29) rfl))) (mvT hZ (hw _ (List.mem_of_getElem? (i := 28) rfl))) (by decide) (backOf (W := 0) (rm5 l Z a0 hw [] b6 (f4 (f4 (0 : Int64) q1) q2) T51.heap n0 Zs55 qp51_3) hZ (hw _ (List.mem_of_getElem? (i := 30) rfl)) (hw _ (List.mem_of_getElem? (i := 2) rfl)) (by decide) (by decide)) q52a q52c (g := (mkF m 117 #[.val (.long q1), .second, .val (.long q2), .second, .val (.int p3), .val (.long q4), .second, .val (.int p5), .val (.ref b6), .val (.int (1 : Int32)), .val (.ref b6), .val (.long (q1 + q2)), .second, .val (.int (0 : Int32)), .val (.ref b6)] [(.ref b6)])) rfl (by rw [hml]; rfl) (Steps.refl _) (argsL := []) (rest := []) (lenOf pd_0_3 rfl) rfl (by show 2 * 0 + _ ≤ _; exact Nat.le_of_eq rfl) (hb hby at_117) (fun _ _ => ⟨rfl, rfl, (by decide : 3 + 0 ≤ _), (by decide : 20 + 0 ≤ _)⟩)
        dsimp only [Pt.U, Pt.locs, Pt.cells, Pt.slots] at X52 l52 y52 z52 st52 hQ52
        subst l52 y52 z52
        obtain ⟨rfl, N52q, e52⟩ := hQ52
        have N52 := Fr.app N51 N52q
        have pre56 : ∀ t, Steps p.tables e below (T52.setTop (mkF m 123 #[.val (.long q1), .second, .val (.long q2), .second, .val (.int p3), .val (.long q4), .second, .val (.int p5), .val (.ref b6), .val (.int (1 : Int32)), .val (.ref b6), .val (.long (q1 + q2)), .second, .val (.int (0 : Int32)), .val (.ref b6)] [(.int (lcmpW (f4 (f4 (0 : Int64) q1) q2) (q1 + q2)))])) t → Steps p.tables e below (s₁.setTop (entryFrame m #[(.long q1), (.long q2), (.int p3), (.long q4), (.int p5)] maxLocals)) t := fun t kt => by
          refine pre40 _ ?_
          show Steps p.tables e below (T34.setTop (mkF m 83 #[.val (.long q1), .second, .val (.long q2), .second, .val (.int p3), .val (.long q4), .second, .val (.int p5), .val (.ref b6), .val (.int (1 : Int32)), .val (.ref b6), .val (.long (q1 + q2)), .second, .unset, .unset] [(.int (lcmpW ((q1 ^^^ (q1 + q2)) &&& (q2 ^^^ (q1 + q2))) (0 : Int64)))])) _
          refine XS.ifYes X34.here hx rfl (pc0 := 83) (pc' := 90) rfl (hb hby at_83) rfl ((if0 _ _).trans (flt (mt (lw_lt _ _).mp hc41)).2.1) (by decide) (by decide) ?_
          show Steps p.tables e below (T34.setTop (mkF m 90 _ [])) _
          refine XS.iconst X34.here hx rfl (hb hby at_90) ?_
          show Steps p.tables e below (T34.setTop (mkF m 91 _ [(.int (0 : Int32))])) _
          refine XS.istore X34.here hx rfl (hb hby at_91) rfl (l' := #[.val (.long q1), .second, .val (.long q2), .second, .val (.int p3), .val (.long q4), .second, .val (.int p5), .val (.ref b6), .val (.int (1 : Int32)), .val (.ref b6), .val (.long (q1 + q2)), .second, .val (.int (0 : Int32)), .unset]) rfl ?_
          show Steps p.tables e below (T34.setTop (mkF m 93 _ [])) _
          refine XS.iload X34.here hx rfl (hb hby at_93) rfl ?_
          show Steps p.tables e below (T34.setTop (mkF m 95 _ [(.int (0 : Int32))])) _
          refine XS.ifNo X34.here hx rfl (hb hby at_95) rfl ((if0 _ _).trans (teq (by decide)).2) ?_
          show Steps p.tables e below (T34.setTop (mkF m 98 _ [])) _
          refine XS.aload X34.here hx rfl (hb hby at_98) rfl rfl ?_
          show Steps p.tables e below (T34.setTop (mkF m 100 _ [(.ref b6)])) _
          refine XS.lloadN X34.here hx rfl (hb hby at_100) rfl ?_
          show Steps p.tables e below (T34.setTop (mkF m 101 _ [(.long q2), (.ref b6)])) _
          refine st51.trans ?_
          show Steps p.tables e below (T51.setTop (mkF m 104 _ [(.ref b6)])) _
          refine XS.astore X51.here hx rfl (hb hby at_104) rfl rfl (l' := #[.val (.long q1), .second, .val (.long q2), .second, .val (.int p3), .val (.long q4), .second, .val (.int p5), .val (.ref b6), .val (.int (1 : Int32)), .val (.ref b6), .val (.long (q1 + q2)), .second, .val (.int (0 : Int32)), .val (.ref b6)]) rfl ?_
          show Steps p.tables e below (T51.setTop (mkF m 106 _ [])) _
          refine XS.aload X51.here hx rfl (hb hby at_106) rfl rfl ?_
          show Steps p.tables e below (T51.setTop (mkF m 108 _ [(.ref b6)])) _
          refine XS.aload X51.here hx rfl (hb hby at_108) rfl rfl ?_
          show Steps p.tables e below (T51.setTop (mkF m 110 _ [(.ref b6), (.ref b6)])) _
          refine Jvm.RoadKit.acmp (g := (mkF m 110 #[.val (.long q1), .second, .val (.long q2), .second, .val (.int p3), .val (.long q4), .second, .val (.int p5), .val (.ref b6), .val (.int (1 : Int32)), .val (.ref b6), .val (.long (q1 + q2)), .second, .val (.int (0 : Int32)), .val (.ref b6)] [(.ref b6), (.ref b6)])) X51 hx rfl rfl rfl (pc0 := 110) (pc' := 115) (same := true) rfl (hb hby at_110) rfl (decide_eq_true (congrArg Value.ref rfl)) (by decide) (by decide) ?_
          show Steps p.tables e below (T51.setTop (mkF m 115 _ [])) _
          refine XS.aload X51.here hx rfl (hb hby at_115) rfl rfl ?_
          show Steps p.tables e below (T51.setTop (mkF m 117 _ [(.ref b6)])) _
          refine st52.trans ?_
          show Steps p.tables e below (T52.setTop (mkF m 120 _ [(.long (f4 (f4 (0 : Int64) q1) q2))])) _
          refine XS.lload X52.here hx rfl (hb hby at_120) rfl ?_
          show Steps p.tables e below (T52.setTop (mkF m 122 _ [(.long (q1 + q2)), (.long (f4 (f4 (0 : Int64) q1) q2))])) _
          refine XS.lcmp X52.here hx rfl (hb hby at_122) rfl ?_
          exact kt
        by_cases hc57 : (f4 (f4 (0 : Int64) q1) q2) = (q1 + q2)
        · skip
          obtain ⟨cq58, kq58, q58a, q58b, q58c⟩ := isOf hZ e52 qp51_0
          obtain ⟨_, _, ⟨T58, L58, k58, n58⟩, -, X58, ⟨Lc58, hQ58, l58, y58, z58⟩, st58⟩ := X52.virtualBack hx (y := (⟨"com/example/releve/releve/LinearExpression", "size", "()I"⟩ : MethodName)) (z := (⟨"com/example/releve/releve/LinearExpression", "size", "()I"⟩ : MethodName)) hown (mvT hZ (hw _ (List.mem_of_getElem? (i := 31) rfl))) (mvT hZ (hw _ (List.mem_of_getElem? (i := 32) rfl))) (notFace_of_selects (args := #[]) (mvT hZ (hw _ (List.mem_of_getElem? (i := 34) rfl)))) (mvT hZ (hw _ (List.mem_of_getElem? (i := 34) rfl))) (mvT hZ (hw _ (List.mem_of_getElem? (i := 33) rfl))) (by decide) (backOf (W := 0) (rm6 l Z a0 hw [] b6 ((0 : Int32) + (1 : Int32)) T51.heap n0 Zs55 qp51_4) hZ (hw _ (List.mem_of_getElem? (i := 35) rfl)) (hw _ (List.mem_of_getElem? (i := 2) rfl)) (by decide) (by decide)) q58a q58c (g := (mkF m 142 #[.val (.long q1), .second, .val (.long q2), .second, .val (.int p3), .val (.long q4), .second, .val (.int p5), .val (.ref b6), .val (.int (1 : Int32)), .val (.ref b6), .val (.long (q1 + q2)), .second, .val (.int (0 : Int32)), .val (.int (1 : Int32))] [(.ref b6)])) rfl (by rw [hml]; rfl) (Steps.refl _) (argsL := []) (rest := []) (lenOf pd_0_4 rfl) rfl (by show 2 * 0 + _ ≤ _; exact Nat.le_of_eq rfl) (hb hby at_142) (fun _ _ => ⟨rfl, e52, (by decide : 3 + 0 ≤ _), (by decide : 20 + 0 ≤ _)⟩)
          dsimp only [Pt.U, Pt.locs, Pt.cells, Pt.slots] at X58 l58 y58 z58 st58 hQ58
          subst l58 y58 z58
          obtain ⟨rfl, N58q, e58⟩ := hQ58
          have N58 := Fr.app N52 N58q
          have pre59 : ∀ t, Steps p.tables e below (T58.setTop (mkF m 147 #[.val (.long q1), .second, .val (.long q2), .second, .val (.int p3), .val (.long q4), .second, .val (.int p5), .val (.ref b6), .val (.int (1 : Int32)), .val (.ref b6), .val (.long (q1 + q2)), .second, .val (.int (0 : Int32)), .val (.int (1 : Int32))] [(.int (1 : Int32)), (.int ((0 : Int32) + (1 : Int32)))])) t → Steps p.tables e below (s₁.setTop (entryFrame m #[(.long q1), (.long q2), (.int p3), (.long q4), (.int p5)] maxLocals)) t := fun t kt => by
            refine pre56 _ ?_
            show Steps p.tables e below (T52.setTop (mkF m 123 #[.val (.long q1), .second, .val (.long q2), .second, .val (.int p3), .val (.long q4), .second, .val (.int p5), .val (.ref b6), .val (.int (1 : Int32)), .val (.ref b6), .val (.long (q1 + q2)), .second, .val (.int (0 : Int32)), .val (.ref b6)] [(.int (lcmpW (f4 (f4 (0 : Int64) q1) q2) (q1 + q2)))])) _
            refine XS.ifYes X52.here hx rfl (pc0 := 123) (pc' := 128) rfl (hb hby at_123) rfl ((if0 _ _).trans (teq ((lw_eq _ _).mpr hc57)).1) (by decide) (by decide) ?_
            show Steps p.tables e below (T52.setTop (mkF m 128 _ [])) _
            refine XS.iload X52.here hx rfl (hb hby at_128) rfl ?_
            show Steps p.tables e below (T52.setTop (mkF m 130 _ [(.int (1 : Int32))])) _
            refine XS.ifNo X52.here hx rfl (hb hby at_130) rfl ((if0 _ _).trans (feq (by decide)).1) ?_
            show Steps p.tables e below (T52.setTop (mkF m 133 _ [])) _
            refine XS.iconst X52.here hx rfl (hb hby at_133) ?_
            show Steps p.tables e below (T52.setTop (mkF m 134 _ [(.int (1 : Int32))])) _
            refine XS.goto X52.here hx rfl (pc0 := 134) (pc' := 138) rfl (hb hby at_134) (by decide) (by decide) ?_
            show Steps p.tables e below (T52.setTop (mkF m 138 _ [(.int (1 : Int32))])) _
            refine XS.istore X52.here hx rfl (hb hby at_138) rfl (l' := #[.val (.long q1), .second, .val (.long q2), .second, .val (.int p3), .val (.long q4), .second, .val (.int p5), .val (.ref b6), .val (.int (1 : Int32)), .val (.ref b6), .val (.long (q1 + q2)), .second, .val (.int (0 : Int32)), .val (.int (1 : Int32))]) rfl ?_
            show Steps p.tables e below (T52.setTop (mkF m 140 _ [])) _
            refine XS.aload X52.here hx rfl (hb hby at_140) rfl rfl ?_
            show Steps p.tables e below (T52.setTop (mkF m 142 _ [(.ref b6)])) _
            refine st58.trans ?_
            show Steps p.tables e below (T58.setTop (mkF m 145 _ [(.int ((0 : Int32) + (1 : Int32)))])) _
            refine XS.iload X58.here hx rfl (hb hby at_145) rfl ?_
            exact kt
          by_cases hc60 : ((0 : Int32) + (1 : Int32)) = (1 : Int32)
          · skip
            obtain ⟨cq61, kq61, q61a, q61b, q61c⟩ := isOf hZ e58 qp51_0
            obtain ⟨_, _, ⟨T61, L61, k61, n61⟩, -, X61, ⟨Lc61, hQ61, l61, y61, z61⟩, st61⟩ := X58.virtualBack hx (y := (⟨"com/example/releve/releve/LinearExpression", "variable", "(I)I"⟩ : MethodName)) (z := (⟨"com/example/releve/releve/LinearExpression", "variable", "(I)I"⟩ : MethodName)) hown (mvT hZ (hw _ (List.mem_of_getElem? (i := 43) rfl))) (mvT hZ (hw _ (List.mem_of_getElem? (i := 44) rfl))) (notFace_of_selects (args := #[]) (mvT hZ (hw _ (List.mem_of_getElem? (i := 46) rfl)))) (mvT hZ (hw _ (List.mem_of_getElem? (i := 46) rfl))) (mvT hZ (hw _ (List.mem_of_getElem? (i := 45) rfl))) (by decide) (backOf (W := 0) (rm8 l Z a0 hw [] b6 (0 : Int32) b7_b3 k7_b3 [p3, (0 : Int32), (0 : Int32), (0 : Int32), (0 : Int32), (0 : Int32), (0 : Int32), (0 : Int32)] (8 : Int32) T51.heap n0 Zs55 qp51_1 Av53 ⟨by decide, by decide⟩) hZ (hw _ (List.mem_of_getElem? (i := 47) rfl)) (hw _ (List.mem_of_getElem? (i := 2) rfl)) (by decide) (by decide)) q61a q61c (g := (mkF m 160 #[.val (.long q1), .second, .val (.long q2), .second, .val (.int p3), .val (.long q4), .second, .val (.int p5), .val (.ref b6), .val (.int (1 : Int32)), .val (.ref b6), .val (.long (q1 + q2)), .second, .val (.int (0 : Int32)), .val (.int (1 : Int32))] [(.int (0 : Int32)), (.ref b6)])) rfl (by rw [hml]; rfl) (Steps.refl _) (argsL := [(.int (0 : Int32))]) (rest := []) (lenOf pd_0_6 rfl) rfl (by show 2 * 0 + _ ≤ _; exact Nat.le_of_eq rfl) (hb hby at_160) (fun _ _ => ⟨rfl, e58, (by decide : 3 + 0 ≤ _), (by decide : 20 + 0 ≤ _)⟩)
            dsimp only [Pt.U, Pt.locs, Pt.cells, Pt.slots] at X61 l61 y61 z61 st61 hQ61
            subst l61 y61 z61
            obtain ⟨rfl, N61q, e61⟩ := hQ61
            have N61 := Fr.app N58 N61q
            have pre62 : ∀ t, Steps p.tables e below (T61.setTop (mkF m 165 #[.val (.long q1), .second, .val (.long q2), .second, .val (.int p3), .val (.long q4), .second, .val (.int p5), .val (.ref b6), .val (.int (1 : Int32)), .val (.ref b6), .val (.long (q1 + q2)), .second, .val (.int (0 : Int32)), .val (.int (1 : Int32))] [(.int p3), (.int (f8 (0 : Int32) [p3, (0 : Int32), (0 : Int32), (0 : Int32), (0 : Int32), (0 : Int32), (0 : Int32), (0 : Int32)]))])) t → Steps p.tables e below (s₁.setTop (entryFrame m #[(.long q1), (.long q2), (.int p3), (.long q4), (.int p5)] maxLocals)) t := fun t kt => by
              refine pre59 _ ?_
              show Steps p.tables e below (T58.setTop (mkF m 147 #[.val (.long q1), .second, .val (.long q2), .second, .val (.int p3), .val (.long q4), .second, .val (.int p5), .val (.ref b6), .val (.int (1 : Int32)), .val (.ref b6), .val (.long (q1 + q2)), .second, .val (.int (0 : Int32)), .val (.int (1 : Int32))] [(.int (1 : Int32)), (.int ((0 : Int32) + (1 : Int32)))])) _
              refine XS.icmpYes X58.here hx rfl (pc0 := 147) (pc' := 152) rfl (hb hby at_147) rfl (teq hc60).1 (by decide) (by decide) ?_
              show Steps p.tables e below (T58.setTop (mkF m 152 _ [])) _
              refine XS.iload X58.here hx rfl (hb hby at_152) rfl ?_
              show Steps p.tables e below (T58.setTop (mkF m 154 _ [(.int (1 : Int32))])) _
              refine XS.ifNo X58.here hx rfl (hb hby at_154) rfl ((if0 _ _).trans (feq (by decide)).1) ?_
              show Steps p.tables e below (T58.setTop (mkF m 157 _ [])) _
              refine XS.aload X58.here hx rfl (hb hby at_157) rfl rfl ?_
              show Steps p.tables e below (T58.setTop (mkF m 159 _ [(.ref b6)])) _
              refine XS.iconst X58.here hx rfl (hb hby at_159) ?_
              show Steps p.tables e below (T58.setTop (mkF m 160 _ [(.int (0 : Int32)), (.ref b6)])) _
              refine st61.trans ?_
              show Steps p.tables e below (T61.setTop (mkF m 163 _ [(.int (f8 (0 : Int32) [p3, (0 : Int32), (0 : Int32), (0 : Int32), (0 : Int32), (0 : Int32), (0 : Int32), (0 : Int32)]))])) _
              refine XS.iload X61.here hx rfl (hb hby at_163) rfl ?_
              exact kt
            by_cases hc63 : (f8 (0 : Int32) [p3, (0 : Int32), (0 : Int32), (0 : Int32), (0 : Int32), (0 : Int32), (0 : Int32), (0 : Int32)]) = p3
            · skip
              obtain ⟨cq64, kq64, q64a, q64b, q64c⟩ := isOf hZ e61 qp51_0
              obtain ⟨_, _, ⟨T64, L64, k64, n64⟩, -, X64, ⟨Lc64, hQ64, l64, y64, z64⟩, st64⟩ := X61.virtualBack hx (y := (⟨"com/example/releve/releve/LinearExpression", "coefficient", "(I)J"⟩ : MethodName)) (z := (⟨"com/example/releve/releve/LinearExpression", "coefficient", "(I)J"⟩ : MethodName)) hown (mvT hZ (hw _ (List.mem_of_getElem? (i := 48) rfl))) (mvT hZ (hw _ (List.mem_of_getElem? (i := 49) rfl))) (notFace_of_selects (args := #[]) (mvT hZ (hw _ (List.mem_of_getElem? (i := 51) rfl)))) (mvT hZ (hw _ (List.mem_of_getElem? (i := 51) rfl))) (mvT hZ (hw _ (List.mem_of_getElem? (i := 50) rfl))) (by decide) (backOf (W := 0) (rm9 l Z a0 hw [] b6 (0 : Int32) b7_b17 k7_b17 [q4, (0 : Int64), (0 : Int64), (0 : Int64), (0 : Int64), (0 : Int64), (0 : Int64), (0 : Int64)] (8 : Int32) T51.heap n0 Zs55 qp51_2 Av54 ⟨by decide, by decide⟩) hZ (hw _ (List.mem_of_getElem? (i := 52) rfl)) (hw _ (List.mem_of_getElem? (i := 2) rfl)) (by decide) (by decide)) q64a q64c (g := (mkF m 171 #[.val (.long q1), .second, .val (.long q2), .second, .val (.int p3), .val (.long q4), .second, .val (.int p5), .val (.ref b6), .val (.int (1 : Int32)), .val (.ref b6), .val (.long (q1 + q2)), .second, .val (.int (0 : Int32)), .val (.int (1 : Int32))] [(.int (0 : Int32)), (.ref b6)])) rfl (by rw [hml]; rfl) (Steps.refl _) (argsL := [(.int (0 : Int32))]) (rest := []) (lenOf pd_0_7 rfl) rfl (by show 2 * 0 + _ ≤ _; exact Nat.le_of_eq rfl) (hb hby at_171) (fun _ _ => ⟨rfl, e61, (by decide : 3 + 0 ≤ _), (by decide : 20 + 0 ≤ _)⟩)
              dsimp only [Pt.U, Pt.locs, Pt.cells, Pt.slots] at X64 l64 y64 z64 st64 hQ64
              subst l64 y64 z64
              obtain ⟨rfl, N64q, e64⟩ := hQ64
              have N64 := Fr.app N61 N64q
              have pre65 : ∀ t, Steps p.tables e below (T64.setTop (mkF m 177 #[.val (.long q1), .second, .val (.long q2), .second, .val (.int p3), .val (.long q4), .second, .val (.int p5), .val (.ref b6), .val (.int (1 : Int32)), .val (.ref b6), .val (.long (q1 + q2)), .second, .val (.int (0 : Int32)), .val (.int (1 : Int32))] [(.int (lcmpW (f9 (0 : Int32) [q4, (0 : Int64), (0 : Int64), (0 : Int64), (0 : Int64), (0 : Int64), (0 : Int64), (0 : Int64)]) q4))])) t → Steps p.tables e below (s₁.setTop (entryFrame m #[(.long q1), (.long q2), (.int p3), (.long q4), (.int p5)] maxLocals)) t := fun t kt => by
                refine pre62 _ ?_
                show Steps p.tables e below (T61.setTop (mkF m 165 #[.val (.long q1), .second, .val (.long q2), .second, .val (.int p3), .val (.long q4), .second, .val (.int p5), .val (.ref b6), .val (.int (1 : Int32)), .val (.ref b6), .val (.long (q1 + q2)), .second, .val (.int (0 : Int32)), .val (.int (1 : Int32))] [(.int p3), (.int (f8 (0 : Int32) [p3, (0 : Int32), (0 : Int32), (0 : Int32), (0 : Int32), (0 : Int32), (0 : Int32), (0 : Int32)]))])) _
                refine XS.icmpNo X61.here hx rfl (hb hby at_165) rfl (teq hc63).2 ?_
                show Steps p.tables e below (T61.setTop (mkF m 168 _ [])) _
                refine XS.aload X61.here hx rfl (hb hby at_168) rfl rfl ?_
                show Steps p.tables e below (T61.setTop (mkF m 170 _ [(.ref b6)])) _
                refine XS.iconst X61.here hx rfl (hb hby at_170) ?_
                show Steps p.tables e below (T61.setTop (mkF m 171 _ [(.int (0 : Int32)), (.ref b6)])) _
                refine st64.trans ?_
                show Steps p.tables e below (T64.setTop (mkF m 174 _ [(.long (f9 (0 : Int32) [q4, (0 : Int64), (0 : Int64), (0 : Int64), (0 : Int64), (0 : Int64), (0 : Int64), (0 : Int64)]))])) _
                refine XS.lload X64.here hx rfl (hb hby at_174) rfl ?_
                show Steps p.tables e below (T64.setTop (mkF m 176 _ [(.long q4), (.long (f9 (0 : Int32) [q4, (0 : Int64), (0 : Int64), (0 : Int64), (0 : Int64), (0 : Int64), (0 : Int64), (0 : Int64)]))])) _
                refine XS.lcmp X64.here hx rfl (hb hby at_176) rfl ?_
                exact kt
              by_cases hc66 : (f9 (0 : Int32) [q4, (0 : Int64), (0 : Int64), (0 : Int64), (0 : Int64), (0 : Int64), (0 : Int64), (0 : Int64)]) = q4
              · skip
                obtain ⟨fs, hr, hrun, hended, hW, hsame⟩ := X64.leave (v := some (.int (1 : Int32))) (fun h => by rw [Bd.returns] at h; cases h) (by first | exact BodyLoose.notSynchronized Bd | exact Body.notSynchronized Bd)
                refine ⟨_, _, pre65 _ ?_, hrun, hended, _, _, rfl, ?_, ⟨_, rfl⟩, hW, hsame.mono (by decide) (by decide)⟩
                · show Steps p.tables e below (T64.setTop (mkF m 177 #[.val (.long q1), .second, .val (.long q2), .second, .val (.int p3), .val (.long q4), .second, .val (.int p5), .val (.ref b6), .val (.int (1 : Int32)), .val (.ref b6), .val (.long (q1 + q2)), .second, .val (.int (0 : Int32)), .val (.int (1 : Int32))] [(.int (lcmpW (f9 (0 : Int32) [q4, (0 : Int64), (0 : Int64), (0 : Int64), (0 : Int64), (0 : Int64), (0 : Int64), (0 : Int64)]) q4))])) _
                  refine XS.ifYes X64.here hx rfl (pc0 := 177) (pc' := 182) rfl (hb hby at_177) rfl ((if0 _ _).trans (teq ((lw_eq _ _).mpr hc66)).1) (by decide) (by decide) ?_
                  show Steps p.tables e below (T64.setTop (mkF m 182 _ [])) _
                  refine XS.iconst X64.here hx rfl (hb hby at_182) ?_
                  show Steps p.tables e below (T64.setTop (mkF m 183 #[.val (.long q1), .second, .val (.long q2), .second, .val (.int p3), .val (.long q4), .second, .val (.int p5), .val (.ref b6), .val (.int (1 : Int32)), .val (.ref b6), .val (.long (q1 + q2)), .second, .val (.int (0 : Int32)), .val (.int (1 : Int32))] [(.int (1 : Int32))])) _
                  exact retN X64 hx (t := .boolean) Bd.returns (by simp) (hb hby at_183) hr
                · show Q0 Z q1 q2 p3 q4 p5 h0 n0 _ T64.heap _
                  rw [e64]
                  exact ⟨congrArg (fun z => some (Value.int z)) (by rw [f0, if_neg hc10, if_pos hc39, if_neg hc41, if_pos hc57, if_pos hc60, if_pos hc63, if_pos hc66] : f0 q1 q2 p3 q4 p5 = (1 : Int32)).symm, N64⟩
              · skip
                obtain ⟨fs, hr, hrun, hended, hW, hsame⟩ := X64.leave (v := some (.int (0 : Int32))) (fun h => by rw [Bd.returns] at h; cases h) (by first | exact BodyLoose.notSynchronized Bd | exact Body.notSynchronized Bd)
                refine ⟨_, _, pre65 _ ?_, hrun, hended, _, _, rfl, ?_, ⟨_, rfl⟩, hW, hsame.mono (by decide) (by decide)⟩
                · show Steps p.tables e below (T64.setTop (mkF m 177 #[.val (.long q1), .second, .val (.long q2), .second, .val (.int p3), .val (.long q4), .second, .val (.int p5), .val (.ref b6), .val (.int (1 : Int32)), .val (.ref b6), .val (.long (q1 + q2)), .second, .val (.int (0 : Int32)), .val (.int (1 : Int32))] [(.int (lcmpW (f9 (0 : Int32) [q4, (0 : Int64), (0 : Int64), (0 : Int64), (0 : Int64), (0 : Int64), (0 : Int64), (0 : Int64)]) q4))])) _
                  refine XS.ifNo X64.here hx rfl (hb hby at_177) rfl ((if0 _ _).trans (feq (mt (lw_eq _ _).mp hc66)).1) ?_
                  show Steps p.tables e below (T64.setTop (mkF m 180 _ [])) _
                  refine XS.iconst X64.here hx rfl (hb hby at_180) ?_
                  show Steps p.tables e below (T64.setTop (mkF m 181 #[.val (.long q1), .second, .val (.long q2), .second, .val (.int p3), .val (.long q4), .second, .val (.int p5), .val (.ref b6), .val (.int (1 : Int32)), .val (.ref b6), .val (.long (q1 + q2)), .second, .val (.int (0 : Int32)), .val (.int (1 : Int32))] [(.int (0 : Int32))])) _
                  exact retN X64 hx (t := .boolean) Bd.returns (by simp) (hb hby at_181) hr
                · show Q0 Z q1 q2 p3 q4 p5 h0 n0 _ T64.heap _
                  rw [e64]
                  exact ⟨congrArg (fun z => some (Value.int z)) (by rw [f0, if_neg hc10, if_pos hc39, if_neg hc41, if_pos hc57, if_pos hc60, if_pos hc63, if_neg hc66] : f0 q1 q2 p3 q4 p5 = (0 : Int32)).symm, N64⟩
            · skip
              obtain ⟨fs, hr, hrun, hended, hW, hsame⟩ := X61.leave (v := some (.int (0 : Int32))) (fun h => by rw [Bd.returns] at h; cases h) (by first | exact BodyLoose.notSynchronized Bd | exact Body.notSynchronized Bd)
              refine ⟨_, _, pre62 _ ?_, hrun, hended, _, _, rfl, ?_, ⟨_, rfl⟩, hW, hsame.mono (by decide) (by decide)⟩
              · show Steps p.tables e below (T61.setTop (mkF m 165 #[.val (.long q1), .second, .val (.long q2), .second, .val (.int p3), .val (.long q4), .second, .val (.int p5), .val (.ref b6), .val (.int (1 : Int32)), .val (.ref b6), .val (.long (q1 + q2)), .second, .val (.int (0 : Int32)), .val (.int (1 : Int32))] [(.int p3), (.int (f8 (0 : Int32) [p3, (0 : Int32), (0 : Int32), (0 : Int32), (0 : Int32), (0 : Int32), (0 : Int32), (0 : Int32)]))])) _
                refine XS.icmpYes X61.here hx rfl (pc0 := 165) (pc' := 180) rfl (hb hby at_165) rfl (feq hc63).2 (by decide) (by decide) ?_
                show Steps p.tables e below (T61.setTop (mkF m 180 _ [])) _
                refine XS.iconst X61.here hx rfl (hb hby at_180) ?_
                show Steps p.tables e below (T61.setTop (mkF m 181 #[.val (.long q1), .second, .val (.long q2), .second, .val (.int p3), .val (.long q4), .second, .val (.int p5), .val (.ref b6), .val (.int (1 : Int32)), .val (.ref b6), .val (.long (q1 + q2)), .second, .val (.int (0 : Int32)), .val (.int (1 : Int32))] [(.int (0 : Int32))])) _
                exact retN X61 hx (t := .boolean) Bd.returns (by simp) (hb hby at_181) hr
              · show Q0 Z q1 q2 p3 q4 p5 h0 n0 _ T61.heap _
                rw [e61]
                exact ⟨congrArg (fun z => some (Value.int z)) (by rw [f0, if_neg hc10, if_pos hc39, if_neg hc41, if_pos hc57, if_pos hc60, if_neg hc63] : f0 q1 q2 p3 q4 p5 = (0 : Int32)).symm, N61⟩
          · skip
            obtain ⟨fs, hr, hrun, hended, hW, hsame⟩ := X58.leave (v := some (.int (0 : Int32))) (fun h => by rw [Bd.returns] at h; cases h) (by first | exact BodyLoose.notSynchronized Bd | exact Body.notSynchronized Bd)
            refine ⟨_, _, pre59 _ ?_, hrun, hended, _, _, rfl, ?_, ⟨_, rfl⟩, hW, hsame.mono (by decide) (by decide)⟩
            · show Steps p.tables e below (T58.setTop (mkF m 147 #[.val (.long q1), .second, .val (.long q2), .second, .val (.int p3), .val (.long q4), .second, .val (.int p5), .val (.ref b6), .val (.int (1 : Int32)), .val (.ref b6), .val (.long (q1 + q2)), .second, .val (.int (0 : Int32)), .val (.int (1 : Int32))] [(.int (1 : Int32)), (.int ((0 : Int32) + (1 : Int32)))])) _
              refine XS.icmpNo X58.here hx rfl (hb hby at_147) rfl (feq hc60).1 ?_
              show Steps p.tables e below (T58.setTop (mkF m 150 _ [])) _
              refine XS.iconst X58.here hx rfl (hb hby at_150) ?_
              show Steps p.tables e below (T58.setTop (mkF m 151 #[.val (.long q1), .second, .val (.long q2), .second, .val (.int p3), .val (.long q4), .second, .val (.int p5), .val (.ref b6), .val (.int (1 : Int32)), .val (.ref b6), .val (.long (q1 + q2)), .second, .val (.int (0 : Int32)), .val (.int (1 : Int32))] [(.int (0 : Int32))])) _
              exact retN X58 hx (t := .boolean) Bd.returns (by simp) (hb hby at_151) hr
            · show Q0 Z q1 q2 p3 q4 p5 h0 n0 _ T58.heap _
              rw [e58]
              exact ⟨congrArg (fun z => some (Value.int z)) (by rw [f0, if_neg hc10, if_pos hc39, if_neg hc41, if_pos hc57, if_neg hc60] : f0 q1 q2 p3 q4 p5 = (0 : Int32)).symm, N58⟩
        · skip
          obtain ⟨fs, hr, hrun, hended, hW, hsame⟩ := X52.leave (v := some (.int (0 : Int32))) (fun h => by rw [Bd.returns] at h; cases h) (by first | exact BodyLoose.notSynchronized Bd | exact Body.notSynchronized Bd)
          refine ⟨_, _, pre56 _ ?_, hrun, hended, _, _, rfl, ?_, ⟨_, rfl⟩, hW, hsame.mono (by decide) (by decide)⟩
          · show Steps p.tables e below (T52.setTop (mkF m 123 #[.val (.long q1), .second, .val (.long q2), .second, .val (.int p3), .val (.long q4), .second, .val (.int p5), .val (.ref b6), .val (.int (1 : Int32)), .val (.ref b6), .val (.long (q1 + q2)), .second, .val (.int (0 : Int32)), .val (.ref b6)] [(.int (lcmpW (f4 (f4 (0 : Int64) q1) q2) (q1 + q2)))])) _
            refine XS.ifNo X52.here hx rfl (hb hby at_123) rfl ((if0 _ _).trans (feq (mt (lw_eq _ _).mp hc57)).1) ?_
            show Steps p.tables e below (T52.setTop (mkF m 126 _ [])) _
            refine XS.iconst X52.here hx rfl (hb hby at_126) ?_
            show Steps p.tables e below (T52.setTop (mkF m 127 #[.val (.long q1), .second, .val (.long q2), .second, .val (.int p3), .val (.long q4), .second, .val (.int p5), .val (.ref b6), .val (.int (1 : Int32)), .val (.ref b6), .val (.long (q1 + q2)), .second, .val (.int (0 : Int32)), .val (.ref b6)] [(.int (0 : Int32))])) _
            exact retN X52 hx (t := .boolean) Bd.returns (by simp) (hb hby at_127) hr
          · show Q0 Z q1 q2 p3 q4 p5 h0 n0 _ T52.heap _
            rw [e52]
            exact ⟨congrArg (fun z => some (Value.int z)) (by rw [f0, if_neg hc10, if_pos hc39, if_neg hc41, if_neg hc57] : f0 q1 q2 p3 q4 p5 = (0 : Int32)).symm, N52⟩
    · skip
      obtain ⟨fs, hr, hrun, hended, hW, hsame⟩ := X34.leave (v := some (.int (0 : Int32))) (fun h => by rw [Bd.returns] at h; cases h) (by first | exact BodyLoose.notSynchronized Bd | exact Body.notSynchronized Bd)
      refine ⟨_, _, pre38 _ ?_, hrun, hended, _, _, rfl, ?_, ⟨_, rfl⟩, hW, hsame.mono (by decide) (by decide)⟩
      · show Steps p.tables e below (T34.setTop (mkF m 62 #[.val (.long q1), .second, .val (.long q2), .second, .val (.int p3), .val (.long q4), .second, .val (.int p5), .val (.ref b6), .val (.int (1 : Int32)), .val (.ref b6), .unset, .unset, .unset, .unset] [(.int (lcmpW (f4 (0 : Int64) q1) q1))])) _
        refine XS.ifNo X34.here hx rfl (hb hby at_62) rfl ((if0 _ _).trans (feq (mt (lw_eq _ _).mp hc39)).1) ?_
        show Steps p.tables e below (T34.setTop (mkF m 65 _ [])) _
        refine XS.iconst X34.here hx rfl (hb hby at_65) ?_
        show Steps p.tables e below (T34.setTop (mkF m 66 #[.val (.long q1), .second, .val (.long q2), .second, .val (.int p3), .val (.long q4), .second, .val (.int p5), .val (.ref b6), .val (.int (1 : Int32)), .val (.ref b6), .unset, .unset, .unset, .unset] [(.int (0 : Int32))])) _
        exact retN X34 hx (t := .boolean) Bd.returns (by simp) (hb hby at_66) hr
      · show Q0 Z q1 q2 p3 q4 p5 h0 n0 _ T34.heap _
        rw [e34]
        exact ⟨congrArg (fun z => some (Value.int z)) (by rw [f0, if_neg hc10, if_neg hc39] : f0 q1 q2 p3 q4 p5 = (0 : Int32)).symm, N34⟩
theorem own_plain (a b : Int64) (v : Int32) (c : Int64) (k : Int32) : f0 a b v c k = 1 := by
  have e1 : f4 a b = a + b := rfl
  have e2 : f8 (0 : Int32) [v, (0 : Int32), (0 : Int32), (0 : Int32), (0 : Int32), (0 : Int32), (0 : Int32), (0 : Int32)] = v := rfl
  have e3 : f9 (0 : Int32) [c, (0 : Int64), (0 : Int64), (0 : Int64), (0 : Int64), (0 : Int64), (0 : Int64), (0 : Int64)] = c := rfl
  have e4 : (0 : Int32) + (1 : Int32) = (1 : Int32) := by decide
  unfold f0
  simp only [own_f4, e1, e2, e3, e4, eq_self, if_true]
  (repeat' split) <;> rfl
set_option maxRecDepth 65536 in
set_option maxHeartbeats 40000000 in
theorem comes_1 {Post : Tables → Env → Array Value → State → Outcome → State → Prop} (hpost : ∀ tb e args s v u, (limb_1_1.after args s (.returned v) u = true ∧ limb_1_2.after args s (.returned v) u = true ∧ True) → FrameEnd s (.returned v) u (Jvm.fieldLocs frame_1_writes args s ++ Jvm.arrayLocs frame_1_arrays args s ++ Jvm.staticLocs frame_1_statics s) 16 128 → Post tb e args s (.returned v) u) :
    ArmFor flags0 classFile x code maxLocals ret World_1 tables_1 room_1 Calls_1 rest_1 Pre_1 Post := by
  intro l hfl _ _ p e ha hc hk s m args below hf hA hF happ hP
  obtain ⟨hcalls, hrest, hpre⟩ := hP
  obtain ⟨-, -, -, hnamed, -, -, -, hat⟩ := (Spec.applies_iff hf).mp happ
  obtain ⟨hg, hn⟩ := and_e (Cond.before_iff.mp (show (Jvm.Cond.and given_1 narrow_1).before args s = true from hpre))
  obtain ⟨gc, hg⟩ := and_e hg
  obtain ⟨gi0, hg⟩ := and_e hg
  obtain ⟨gi1, hg⟩ := and_e hg
  obtain ⟨gi2, hg⟩ := and_e hg
  obtain ⟨gi3, hg⟩ := and_e hg
  obtain ⟨w0, w1, w2, w3, w4, rfl⟩ : ∃ w0 w1 w2 w3 w4 : Value, args = #[w0, w1, w2, w3, w4] := by
    have hs : args.size = 5 := by simpa [Cond.value, given_1] using gc
    obtain ⟨L⟩ := args
    match L, hs with
    | [w0, w1, w2, w3, w4], _ => exact ⟨w0, w1, w2, w3, w4, rfl⟩
  have hw := fun d (hd : d ∈ tables_1) => atoms_spec (ws := Jvm.Cond.code x code maxLocals ret :: tables_1) hat d (List.mem_cons_of_mem _ hd)
  obtain ⟨i0, ei0⟩ := isL_v gi0
  obtain rfl : w0 = (.long i0) := Option.some.inj ei0
  obtain ⟨i1, ei1⟩ := isL_v gi1
  obtain rfl : w1 = (.long i1) := Option.some.inj ei1
  obtain ⟨i2, ei2⟩ := is_v gi2
  obtain rfl : w2 = (.int i2) := Option.some.inj ei2
  obtain ⟨i3, ei3⟩ := isL_v gi3
  obtain rfl : w3 = (.long i3) := Option.some.inj ei3
  obtain ⟨i4, ei4⟩ := is_v hg
  obtain rfl : w4 = (.int i4) := Option.some.inj ei4
  obtain ⟨n, o, h1, h2, h3, vr, L, rfl, ⟨hvr, N⟩, hq⟩ := rm0 l s _ hw tables_1 i0 i1 i2 i3 i4 s.heap s.heap.size (Nat.le_refl _)  p e ha hc hk s m _ below hf ((Spec.applies_iff_loose hf).mp happ).1 ⟨rfl, State.Warmed39.refl s, rfl⟩ trivial
  have hpl : f0 i0 i1 i2 i3 i4 = 1 := own_plain i0 i1 i2 i3 i4 
  rw [hpl] at hvr
  subst hvr
  refine ⟨n, _, h1, h2, h3, hpost _ _ _ _ _ _ ⟨Cond.after_iff.mpr rfl, Cond.after_iff.mpr (eq_i res_at (Term.int_eval (1)) rfl), trivial⟩ ⟨hq.1, hq.2.1, (hq.2.2.sift fun y hy => Or.inr (N y hy)).mono (by decide) (by decide)⟩⟩
theorem main_1_1 : Claimed_1_1 := comes_1 fun _ _ _ _ _ _ h hF => ⟨h.1, hF⟩
theorem main_1_2 : Claimed_1_2 := comes_1 fun _ _ _ _ _ _ h hF => ⟨h.2.1, hF⟩

end Jvm.Pilot.@@N@@
namespace Jvm.Pilot.@@N@@
open Jvm Jvm.ClassFile Sem Op Lib Jvm.Free Jvm.Stand Jvm.Pilot.@@N@@.Jvm.D
/-! MADE BY PROGRAM (witnessworld.py) out of the Statement's table words and the real class files: 12 classes; the members and pool entries that the words name. The judged class is class 1, her method 1. -/
namespace start1
open Jvm.ClassFile
def u (s : String) : CpInfo := .utf8 (stringToUtf16 s)
/-- a pool by its gaps: so many unusable entries, then the entry; so many at the end -/
def gap : Nat → List CpInfo → List CpInfo
  | 0, r => r
  | n + 1, r => .unusable :: gap n r
def poolList (es : List (Nat × CpInfo)) (last : Nat) : List CpInfo := es.foldr (fun e r => gap e.1 (e.2 :: r)) (gap last [])
def pool (es : List (Nat × CpInfo)) (last : Nat) : Array CpInfo := ⟨poolList es last⟩
def fileOf (pool : Array CpInfo) (this : Nat) (attrs : Array Attribute := #[]) (ms : Array MethodInfo := #[]) (fl : Nat := 33) (sup : Nat := 0) (ifs : Array Nat := #[]) (fds : Array FieldInfo := #[]) : ClassFile where
  minorVersion := 0
  majorVersion := 65
  constantPool := pool
  accessFlags := fl
  thisClass := this
  superClass := sup
  interfaces := ifs
  fields := fds
  methods := ms
  attributes := attrs
def plain (name : String) (sup : Option ClassId) : Class where
  name := name
  kind := .ordinary
  loader := none
  accessFlags := 33
  super := sup
  interfaces := #[]
  cf := none
  fields := #[]
  methods := #[]
  instanceTypes := #[]
  staticTypes := #[]
  resolved := #[]
  callSites := []
  init := .initialized
  statics := none
  mirror := none

def pool0 : Array CpInfo := pool [(5, u "<init>"), (0, u "()V"), (1, .class_ 10), (1, u "java/lang/Object")] 113

def k0c0 : Code := { maxStack := 0, maxLocals := 1, code := object_method_1_code, exceptionTable := #[], attributes := #[] }
def k0m0 : Method := { name := "<init>", desc := "()V", sig := { parameters := [], returnType := none }, accessFlags := 1, code := some k0c0 }
/-- java/lang/Object -/
def k0 : Class := { plain "java/lang/Object" none with
  accessFlags := 33
  interfaces := #[]
  cf := some (fileOf pool0 8 #[] #[{ accessFlags := 1, nameIndex := 5, descriptorIndex := 6, attributes := #[] }] 33 0 #[] #[])
  fields := #[]
  methods := #[k0m0]
  instanceTypes := #[]
  staticTypes := #[]
  resolved := Array.replicate 124 none
  statics := none }

def pool1 : Array CpInfo := pool [(2, .class_ 4), (0, .nameAndType 5 6), (0, u "java/lang/Object"), (0, u "<init>"), (0, u "()V"), (0, .class_ 8), (0, u "com/example/releve/releve/LinearExpression"), (0, .methodref 7 3), (0, .methodref 7 11), (0, .nameAndType 12 13), (0, u "plus"), (0, u "(IJ)Lcom/example/releve/releve/LinearExpression;"), (0, .methodref 7 15), (0, .nameAndType 16 17), (0, u "plusConstant"), (0, u "(J)Lcom/example/releve/releve/LinearExpression;"), (0, .methodref 7 19), (0, .nameAndType 20 21), (0, u "constant"), (0, u "()J"), (0, .methodref 7 23), (0, .nameAndType 24 25), (0, u "size"), (0, u "()I"), (0, .methodref 7 27), (0, .nameAndType 28 29), (0, u "variable"), (0, u "(I)I"), (0, .methodref 7 31), (0, .nameAndType 32 33), (0, u "coefficient"), (0, u "(I)J"), (0, .class_ 35), (0, u "com/example/releve/releve/LinearExpressionPlusConstantPinLaw"), (2, u "law"), (0, u "(JJIJI)Z")] 3

def k1m0 : Method := { name := "<init>", desc := "()V", sig := { parameters := [], returnType := none }, accessFlags := 1, code := none }
def k1c1 : Code := { maxStack := 6, maxLocals := 15, code := code, exceptionTable := #[], attributes := #[] }
def k1m1 : Method := { name := "law", desc := "(JJIJI)Z", sig := { parameters := [.long, .long, .int, .long, .int], returnType := some .boolean }, accessFlags := 9, code := some k1c1 }
/-- com/example/releve/releve/LinearExpressionPlusConstantPinLaw -/
def k1 : Class := { plain "com/example/releve/releve/LinearExpressionPlusConstantPinLaw" (some 0) with
  accessFlags := 49
  interfaces := #[]
  cf := some (fileOf pool1 34 #[] #[{ accessFlags := 1, nameIndex := 5, descriptorIndex := 6, attributes := #[] }, { accessFlags := 9, nameIndex := 38, descriptorIndex := 39, attributes := #[] }] 49 2 #[] #[])
  fields := #[]
  methods := #[k1m0, k1m1]
  instanceTypes := #[]
  staticTypes := #[]
  resolved := Array.replicate 43 none
  statics := none }

def pool2 : Array CpInfo := pool [(1, .methodref 2 3), (0, .class_ 4), (0, .nameAndType 5 6), (0, u "java/lang/Object"), (0, u "<init>"), (0, u "()V"), (0, .fieldref 8 9), (0, .class_ 10), (0, .nameAndType 11 12), (0, u "com/example/releve/releve/LinearExpression"), (0, u "variables"), (0, u "[I"), (0, .fieldref 8 14), (0, .nameAndType 15 16), (0, u "coefficients"), (0, u "[J"), (0, .fieldref 8 18), (0, .nameAndType 19 20), (0, u "size"), (0, u "I"), (10, .class_ 33), (1, u "java/lang/Math"), (1, u "(JJ)J"), (2, u "plus"), (0, u "(IJ)Lcom/example/releve/releve/LinearExpression;"), (0, .fieldref 8 41), (0, .nameAndType 42 43), (0, u "constant"), (0, u "J"), (2, u "plusConstant"), (0, u "(J)Lcom/example/releve/releve/LinearExpression;"), (0, .methodref 31 49), (0, .nameAndType 50 35), (0, u "addExact"), (6, .class_ 58), (0, u "com/example/releve/releve/LinearExpression$Terms"), (7, u "()I"), (0, u "variable"), (0, u "(I)I"), (0, u "coefficient"), (0, u "(I)J"), (0, u "()J")] 11

def k2c0 : Code := { maxStack := 2, maxLocals := 1, code := prog_27_method_1_code, exceptionTable := #[], attributes := #[] }
def k2m0 : Method := { name := "<init>", desc := "()V", sig := { parameters := [], returnType := none }, accessFlags := 0, code := some k2c0 }
def k2c1 : Code := { maxStack := 4, maxLocals := 4, code := prog_27_method_2_code, exceptionTable := #[], attributes := #[] }
def k2m1 : Method := { name := "plus", desc := "(IJ)Lcom/example/releve/releve/LinearExpression;", sig := { parameters := [.int, .long], returnType := some (.object "com/example/releve/releve/LinearExpression") }, accessFlags := 0, code := some k2c1 }
def k2c2 : Code := { maxStack := 5, maxLocals := 3, code := prog_27_method_4_code, exceptionTable := #[], attributes := #[] }
def k2m2 : Method := { name := "plusConstant", desc := "(J)Lcom/example/releve/releve/LinearExpression;", sig := { parameters := [.long], returnType := some (.object "com/example/releve/releve/LinearExpression") }, accessFlags := 0, code := some k2c2 }
def k2c3 : Code := { maxStack := 1, maxLocals := 1, code := prog_27_method_5_code, exceptionTable := #[], attributes := #[] }
def k2m3 : Method := { name := "size", desc := "()I", sig := { parameters := [], returnType := some .int }, accessFlags := 0, code := some k2c3 }
def k2c4 : Code := { maxStack := 2, maxLocals := 2, code := prog_27_method_6_code, exceptionTable := #[], attributes := #[] }
def k2m4 : Method := { name := "variable", desc := "(I)I", sig := { parameters := [.int], returnType := some .int }, accessFlags := 0, code := some k2c4 }
def k2c5 : Code := { maxStack := 2, maxLocals := 2, code := prog_27_method_7_code, exceptionTable := #[], attributes := #[] }
def k2m5 : Method := { name := "coefficient", desc := "(I)J", sig := { parameters := [.int], returnType := some .long }, accessFlags := 0, code := some k2c5 }
def k2c6 : Code := { maxStack := 2, maxLocals := 1, code := prog_27_method_8_code, exceptionTable := #[], attributes := #[] }
def k2m6 : Method := { name := "constant", desc := "()J", sig := { parameters := [], returnType := some .long }, accessFlags := 0, code := some k2c6 }
/-- com/example/releve/releve/LinearExpression -/
def k2 : Class := { plain "com/example/releve/releve/LinearExpression" (some 0) with
  accessFlags := 48
  interfaces := #[]
  cf := some (fileOf pool2 8 #[.nestMembers #[57]] #[{ accessFlags := 0, nameIndex := 5, descriptorIndex := 6, attributes := #[] }, { accessFlags := 0, nameIndex := 38, descriptorIndex := 39, attributes := #[] }, { accessFlags := 0, nameIndex := 46, descriptorIndex := 47, attributes := #[] }, { accessFlags := 0, nameIndex := 19, descriptorIndex := 66, attributes := #[] }, { accessFlags := 0, nameIndex := 67, descriptorIndex := 68, attributes := #[] }, { accessFlags := 0, nameIndex := 69, descriptorIndex := 70, attributes := #[] }, { accessFlags := 0, nameIndex := 42, descriptorIndex := 71, attributes := #[] }] 48 2 #[] #[{ accessFlags := 2, nameIndex := 11, descriptorIndex := 12, attributes := #[] }, { accessFlags := 2, nameIndex := 15, descriptorIndex := 16, attributes := #[] }, { accessFlags := 2, nameIndex := 19, descriptorIndex := 20, attributes := #[] }, { accessFlags := 2, nameIndex := 42, descriptorIndex := 43, attributes := #[] }])
  fields := #[{ name := "variables", type := (.array .int), accessFlags := 2, slot := 0, constantValue := 0 }, { name := "coefficients", type := (.array .long), accessFlags := 2, slot := 1, constantValue := 0 }, { name := "size", type := .int, accessFlags := 2, slot := 2, constantValue := 0 }, { name := "constant", type := .long, accessFlags := 2, slot := 3, constantValue := 0 }]
  methods := #[k2m0, k2m1, k2m2, k2m3, k2m4, k2m5, k2m6]
  instanceTypes := #[(.array .int), (.array .long), .int, .long]
  staticTypes := #[]
  resolved := Array.replicate 83 none
  statics := none }

def pool3 : Array CpInfo := pool [(1, .class_ 2), (0, u "java/lang/Math"), (1, .class_ 6), (1, u "java/lang/Object"), (0, u "<init>"), (0, u "()V"), (89, .class_ 100), (1, u "java/lang/Math$RandomNumberGeneratorHolder"), (20, u "(JJ)J"), (50, u "negativeZeroFloatBits"), (0, u "J"), (2, u "negativeZeroDoubleBits"), (68, u "$assertionsDisabled"), (0, u "Z"), (91, u "twoToTheDoubleScaleDown"), (0, u "D"), (4, u "twoToTheDoubleScaleUp"), (9, u "E"), (3, u "PI"), (2, u "TAU"), (2, u "DEGREES_TO_RADIANS"), (0, u "RADIANS_TO_DEGREES"), (27, u "addExact")] 66

def k3m0 : Method := { name := "<init>", desc := "()V", sig := { parameters := [], returnType := none }, accessFlags := 2, code := none }
def k3c1 : Code := { maxStack := 6, maxLocals := 6, code := jdk_29_method_25_code, exceptionTable := #[], attributes := #[] }
def k3m1 : Method := { name := "addExact", desc := "(JJ)J", sig := { parameters := [.long, .long], returnType := some .long }, accessFlags := 9, code := some k3c1 }
/-- java/lang/Math -/
def k3 : Class := { plain "java/lang/Math" (some 0) with
  accessFlags := 49
  interfaces := #[]
  cf := some (fileOf pool3 1 #[.nestMembers #[98]] #[{ accessFlags := 2, nameIndex := 7, descriptorIndex := 8, attributes := #[] }, { accessFlags := 9, nameIndex := 393, descriptorIndex := 121, attributes := #[] }] 49 4 #[] #[{ accessFlags := 25, nameIndex := 354, descriptorIndex := 339, attributes := #[] }, { accessFlags := 25, nameIndex := 358, descriptorIndex := 339, attributes := #[] }, { accessFlags := 25, nameIndex := 361, descriptorIndex := 339, attributes := #[] }, { accessFlags := 26, nameIndex := 364, descriptorIndex := 339, attributes := #[] }, { accessFlags := 26, nameIndex := 365, descriptorIndex := 339, attributes := #[] }, { accessFlags := 26, nameIndex := 172, descriptorIndex := 173, attributes := #[] }, { accessFlags := 26, nameIndex := 176, descriptorIndex := 173, attributes := #[] }, { accessFlags := 8, nameIndex := 344, descriptorIndex := 339, attributes := #[] }, { accessFlags := 8, nameIndex := 338, descriptorIndex := 339, attributes := #[] }, { accessFlags := 4120, nameIndex := 245, descriptorIndex := 246, attributes := #[] }])
  fields := #[{ name := "E", type := .double, accessFlags := 25, slot := 0, constantValue := 0 }, { name := "PI", type := .double, accessFlags := 25, slot := 1, constantValue := 0 }, { name := "TAU", type := .double, accessFlags := 25, slot := 2, constantValue := 0 }, { name := "DEGREES_TO_RADIANS", type := .double, accessFlags := 26, slot := 3, constantValue := 0 }, { name := "RADIANS_TO_DEGREES", type := .double, accessFlags := 26, slot := 4, constantValue := 0 }, { name := "negativeZeroFloatBits", type := .long, accessFlags := 26, slot := 5, constantValue := 0 }, { name := "negativeZeroDoubleBits", type := .long, accessFlags := 26, slot := 6, constantValue := 0 }, { name := "twoToTheDoubleScaleUp", type := .double, accessFlags := 8, slot := 7, constantValue := 0 }, { name := "twoToTheDoubleScaleDown", type := .double, accessFlags := 8, slot := 8, constantValue := 0 }, { name := "$assertionsDisabled", type := .boolean, accessFlags := 4120, slot := 9, constantValue := 0 }]
  methods := #[k3m0, k3m1]
  instanceTypes := #[]
  staticTypes := #[.double, .double, .double, .double, .double, .long, .long, .double, .double, .boolean]
  resolved := Array.replicate 460 none
  statics := none }

def pool4 : Array CpInfo := pool [(1, u "java/lang/Cloneable"), (0, .class_ 1), (0, u "java/lang/Object"), (0, .class_ 3)] 3

/-- java/lang/Cloneable -/
def k4 : Class := { plain "java/lang/Cloneable" (some 0) with
  accessFlags := 1537
  interfaces := #[]
  cf := some (fileOf pool4 2 #[] #[] 1537 4 #[] #[])
  fields := #[]
  methods := #[]
  instanceTypes := #[]
  staticTypes := #[]
  resolved := Array.replicate 8 none
  statics := none }

def pool5 : Array CpInfo := pool [(1, u "java/io/Serializable"), (0, .class_ 1), (0, u "java/lang/Object"), (0, .class_ 3)] 3

/-- java/io/Serializable -/
def k5 : Class := { plain "java/io/Serializable" (some 0) with
  accessFlags := 1537
  interfaces := #[]
  cf := some (fileOf pool5 2 #[] #[] 1537 4 #[] #[])
  fields := #[]
  methods := #[]
  instanceTypes := #[]
  staticTypes := #[]
  resolved := Array.replicate 8 none
  statics := none }

/-- the primitive byte -/
def k6 : Class := { plain "byte" none with kind := .primitive 'B', accessFlags := 0x411 }
/-- [B -/
def k7 : Class := { plain "[B" (some 0) with kind := .array 6 .byte, interfaces := #[4, 5], accessFlags := 1041 }

/-- the primitive int -/
def k8 : Class := { plain "int" none with kind := .primitive 'I', accessFlags := 0x411 }
/-- [I -/
def k9 : Class := { plain "[I" (some 0) with kind := .array 8 .int, interfaces := #[4, 5], accessFlags := 1041 }

/-- the primitive long -/
def k10 : Class := { plain "long" none with kind := .primitive 'J', accessFlags := 0x411 }
/-- [J -/
def k11 : Class := { plain "[J" (some 0) with kind := .array 10 .long, interfaces := #[4, 5], accessFlags := 1041 }

def heap : Heap := #[]
def classes : Array Class := #[k0, k1, k2, k3, k4, k5, k6, k7, k8, k9, k10, k11]
def interned : List (Array UInt16 × Addr) := []
def slotsUsed : Nat := 0
def theMethod : MethodId := ⟨1, 1⟩
def args0 : Array Value := #[.long 5, .long 7, .int 1, .long 3, .int 1]
def aboutOver (below : List Frame) : State where
  vm := { classes := classes, interned := interned.toArray }
  heap := heap
  slotsUsed := slotsUsed
  threads := #[{ frames := .invoking theMethod args0 :: below }]
def below0 : List Frame := [.native { method := ⟨0, 0⟩, args := #[] }]
def about1 : State := aboutOver below0
def p0 : Program := .bare "" "" ""
def e0 : Env := launch0.env 0 0 0
theorem w_frames : about1.frames = Frame.invoking theMethod args0 :: below0 := rfl
set_option maxRecDepth 65536 in
theorem w_args : argsFit about1.vm theMethod args0 = true := by decide +kernel
set_option maxRecDepth 65536 in
theorem w_heap : heapFits about1 = true := by decide +kernel
set_option maxRecDepth 65536 in
theorem w_runnable : about1.curStatus? = some .runnable := by decide +kernel
set_option maxRecDepth 65536 in
theorem w_alone : about1.alone = true := by decide +kernel
set_option maxRecDepth 65536 in
theorem w_named : about1.methodNamed? x = some theMethod := by decide +kernel
set_option maxRecDepth 65536 in
theorem w_hears : about1.hears theMethod below0 = true := by decide +kernel
set_option maxRecDepth 65536 in
theorem w_ripe : about1.ripe theMethod args0 below0 = true := by decide +kernel
theorem w_running : about1.status = .running := rfl
set_option maxRecDepth 65536 in
theorem w_room : about1.hasRoom e0.platform room_1 = true :=
  launch0.hasRoom_least _ room_1 (by decide +kernel) (by decide +kernel) (by decide +kernel) (by decide +kernel) (by decide +kernel) (by decide +kernel)
theorem allAtoms_all (ts : List Jvm.Cond) (a : Array Jvm.Value) (st : Jvm.State) : (allAtoms ts).before a st = ts.all (fun c => c.before a st) := by
  induction ts with
  | nil => rfl
  | cons c t ih =>
    show (Jvm.Cond.and c (allAtoms t)).before a st = _
    rw [Jvm.Cond.before_and, ih, List.all_cons]
def words1 : List Jvm.Cond := Jvm.Cond.code x code maxLocals ret :: tables_1
/-- a 'code' word, met by the world's own term for the bytes: nothing is compared byte by byte -/
theorem code_word {y : MethodName} {bytes : ByteArray} {mx : Nat} {rt : Option FieldType} {a : Array Value} {s : State} {m : MethodId} {meth : Method} {c : Code} (h1 : s.methodNamed? y = some m) (h2 : s.vm.method? m = some meth) (h3 : meth.code = some c) (h4 : c.code = bytes)
    (h5 : (c.maxLocals == mx && c.exceptionTable.isEmpty && decide (c.maxStack ≤ mostOperands) && decide (meth.sig.returnType = rt) && !meth.locks && decide (parseMethodDescriptor y.desc = some meth.sig)) = true) : (Jvm.Cond.code y bytes mx rt).before a s = true := by
  simp only [Bool.and_eq_true, beq_iff_eq, Bool.not_eq_true', decide_eq_true_eq] at h5
  obtain ⟨⟨⟨⟨⟨g1, g2⟩, g3⟩, g4⟩, g5⟩, g6⟩ := h5
  simp [Cond.before, Cond.holds, Cond.value, h1, h2, h3, h4, g1, g2, g3, g4, g5, g6]
def isCode : Jvm.Cond → Bool
  | .code _ _ _ _ => true
  | _ => false
theorem all_split {L : List Jvm.Cond} {P : Jvm.Cond → Bool} (h1 : L.all (fun c => isCode c || P c) = true) (h2 : ∀ c ∈ L.filter isCode, P c = true) : L.all P = true := by
  refine List.all_eq_true.mpr fun c hc => ?_
  have h := List.all_eq_true.mp h1 c hc
  rcases Bool.eq_false_or_eq_true (isCode c) with hi | hi
  · exact h2 c (List.mem_filter.mpr ⟨hc, hi⟩)
  · simpa [hi] using h
set_option maxRecDepth 65536 in
theorem w_c0 : (Jvm.Cond.code x code maxLocals ret).before args0 about1 = true := code_word (m := ⟨1, 1⟩) (meth := k1m1) (c := k1c1) (by decide +kernel) rfl rfl rfl (by decide +kernel)
set_option maxRecDepth 65536 in
theorem w_c1 : (Jvm.Cond.code ({ cls := "com/example/releve/releve/LinearExpression", name := "<init>", desc := "()V" } : Jvm.MethodName) prog_27_method_1_code (1 : Nat) (Option.none : Option Jvm.ClassFile.FieldType)).before args0 about1 = true := code_word (m := ⟨2, 0⟩) (meth := k2m0) (c := k2c0) (by decide +kernel) rfl rfl rfl (by decide +kernel)
set_option maxRecDepth 65536 in
theorem w_c2 : (Jvm.Cond.code ({ cls := "java/lang/Object", name := "<init>", desc := "()V" } : Jvm.MethodName) object_method_1_code (1 : Nat) (Option.none : Option Jvm.ClassFile.FieldType)).before args0 about1 = true := code_word (m := ⟨0, 0⟩) (meth := k0m0) (c := k0c0) (by decide +kernel) rfl rfl rfl (by decide +kernel)
set_option maxRecDepth 65536 in
theorem w_c3 : (Jvm.Cond.code ({ cls := "com/example/releve/releve/LinearExpression", name := "plusConstant", desc := "(J)Lcom/example/releve/releve/LinearExpression;" } : Jvm.MethodName) prog_27_method_4_code (3 : Nat) (Option.some (Jvm.ClassFile.FieldType.object "com/example/releve/releve/LinearExpression"))).before args0 about1 = true := code_word (m := ⟨2, 2⟩) (meth := k2m2) (c := k2c2) (by decide +kernel) rfl rfl rfl (by decide +kernel)
set_option maxRecDepth 65536 in
theorem w_c4 : (Jvm.Cond.code ({ cls := "java/lang/Math", name := "addExact", desc := "(JJ)J" } : Jvm.MethodName) jdk_29_method_25_code (6 : Nat) (Option.some Jvm.ClassFile.FieldType.long)).before args0 about1 = true := code_word (m := ⟨3, 1⟩) (meth := k3m1) (c := k3c1) (by decide +kernel) rfl rfl rfl (by decide +kernel)
set_option maxRecDepth 65536 in
theorem w_c5 : (Jvm.Cond.code ({ cls := "com/example/releve/releve/LinearExpression", name := "constant", desc := "()J" } : Jvm.MethodName) prog_27_method_8_code (1 : Nat) (Option.some Jvm.ClassFile.FieldType.long)).before args0 about1 = true := code_word (m := ⟨2, 6⟩) (meth := k2m6) (c := k2c6) (by decide +kernel) rfl rfl rfl (by decide +kernel)
set_option maxRecDepth 65536 in
theorem w_c6 : (Jvm.Cond.code ({ cls := "com/example/releve/releve/LinearExpression", name := "size", desc := "()I" } : Jvm.MethodName) prog_27_method_5_code (1 : Nat) (Option.some Jvm.ClassFile.FieldType.int)).before args0 about1 = true := code_word (m := ⟨2, 3⟩) (meth := k2m3) (c := k2c3) (by decide +kernel) rfl rfl rfl (by decide +kernel)
set_option maxRecDepth 65536 in
theorem w_c7 : (Jvm.Cond.code ({ cls := "com/example/releve/releve/LinearExpression", name := "plus", desc := "(IJ)Lcom/example/releve/releve/LinearExpression;" } : Jvm.MethodName) prog_27_method_2_code (4 : Nat) (Option.some (Jvm.ClassFile.FieldType.object "com/example/releve/releve/LinearExpression"))).before args0 about1 = true := code_word (m := ⟨2, 1⟩) (meth := k2m1) (c := k2c1) (by decide +kernel) rfl rfl rfl (by decide +kernel)
set_option maxRecDepth 65536 in
theorem w_c8 : (Jvm.Cond.code ({ cls := "com/example/releve/releve/LinearExpression", name := "variable", desc := "(I)I" } : Jvm.MethodName) prog_27_method_6_code (2 : Nat) (Option.some Jvm.ClassFile.FieldType.int)).before args0 about1 = true := code_word (m := ⟨2, 4⟩) (meth := k2m4) (c := k2c4) (by decide +kernel) rfl rfl rfl (by decide +kernel)
set_option maxRecDepth 65536 in
theorem w_c9 : (Jvm.Cond.code ({ cls := "com/example/releve/releve/LinearExpression", name := "coefficient", desc := "(I)J" } : Jvm.MethodName) prog_27_method_7_code (2 : Nat) (Option.some Jvm.ClassFile.FieldType.long)).before args0 about1 = true := code_word (m := ⟨2, 5⟩) (meth := k2m5) (c := k2c5) (by decide +kernel) rfl rfl rfl (by decide +kernel)
def codes1 : List Jvm.Cond := [Jvm.Cond.code x code maxLocals ret, Jvm.Cond.code ({ cls := "com/example/releve/releve/LinearExpression", name := "<init>", desc := "()V" } : Jvm.MethodName) prog_27_method_1_code (1 : Nat) (Option.none : Option Jvm.ClassFile.FieldType), Jvm.Cond.code ({ cls := "java/lang/Object", name := "<init>", desc := "()V" } : Jvm.MethodName) object_method_1_code (1 : Nat) (Option.none : Option Jvm.ClassFile.FieldType), Jvm.Cond.code ({ cls := "com/example/releve/releve/LinearExpression", name := "plusConstant", desc := "(J)Lcom/example/releve/releve/LinearExpression;" } : Jvm.MethodName) prog_27_method_4_code (3 : Nat) (Option.some (Jvm.ClassFile.FieldType.object "com/example/releve/releve/LinearExpression")), Jvm.Cond.code ({ cls := "java/lang/Math", name := "addExact", desc := "(JJ)J" } : Jvm.MethodName) jdk_29_method_25_code (6 : Nat) (Option.some Jvm.ClassFile.FieldType.long), Jvm.Cond.code ({ cls := "com/example/releve/releve/LinearExpression", name := "constant", desc := "()J" } : Jvm.MethodName) prog_27_method_8_code (1 : Nat) (Option.some Jvm.ClassFile.FieldType.long), Jvm.Cond.code ({ cls := "com/example/releve/releve/LinearExpression", name := "size", desc := "()I" } : Jvm.MethodName) prog_27_method_5_code (1 : Nat) (Option.some Jvm.ClassFile.FieldType.int), Jvm.Cond.code ({ cls := "com/example/releve/releve/LinearExpression", name := "plus", desc := "(IJ)Lcom/example/releve/releve/LinearExpression;" } : Jvm.MethodName) prog_27_method_2_code (4 : Nat) (Option.some (Jvm.ClassFile.FieldType.object "com/example/releve/releve/LinearExpression")), Jvm.Cond.code ({ cls := "com/example/releve/releve/LinearExpression", name := "variable", desc := "(I)I" } : Jvm.MethodName) prog_27_method_6_code (2 : Nat) (Option.some Jvm.ClassFile.FieldType.int), Jvm.Cond.code ({ cls := "com/example/releve/releve/LinearExpression", name := "coefficient", desc := "(I)J" } : Jvm.MethodName) prog_27_method_7_code (2 : Nat) (Option.some Jvm.ClassFile.FieldType.long)]
set_option maxRecDepth 65536 in
theorem codes_eq : words1.filter isCode = codes1 := rfl
theorem w_codes : ∀ c ∈ words1.filter isCode, c.before args0 about1 = true := by
  rw [codes_eq]
  intro c hc
  simp only [codes1, List.mem_cons, List.not_mem_nil, or_false] at hc
  rcases hc with rfl | rfl | rfl | rfl | rfl | rfl | rfl | rfl | rfl | rfl
  · exact w_c0
  · exact w_c1
  · exact w_c2
  · exact w_c3
  · exact w_c4
  · exact w_c5
  · exact w_c6
  · exact w_c7
  · exact w_c8
  · exact w_c9
set_option maxRecDepth 65536 in
theorem w_t1 : (words1.take 24).all (fun c => isCode c || c.before args0 about1) = true := by decide +kernel
set_option maxRecDepth 65536 in
theorem w_t2 : ((words1.drop 24).take 24).all (fun c => isCode c || c.before args0 about1) = true := by decide +kernel
set_option maxRecDepth 65536 in
theorem w_t3 : ((words1.drop 24).drop 24).all (fun c => isCode c || c.before args0 about1) = true := by decide +kernel
theorem w_tables : (allAtoms (Jvm.Cond.code x code maxLocals ret :: tables_1)).before args0 about1 = true := by
  rw [allAtoms_all]
  show words1.all (fun c => c.before args0 about1) = true
  refine all_split ?_ w_codes
  rw [← List.take_append_drop 24 words1, List.all_append, w_t1, ← List.take_append_drop 24 (words1.drop 24), List.all_append, w_t2, w_t3]
  rfl
set_option maxRecDepth 65536 in
theorem w_case : (Jvm.Cond.and given_1 narrow_1).before args0 about1 = true := by decide +kernel
theorem w_applies : (headSpec (Jvm.Cond.code x code maxLocals ret :: tables_1) room_1).applies x e0.platform about1 = true :=
  (Spec.applies_iff w_frames).mpr ⟨w_running, w_runnable, w_alone, w_named, w_hears, w_ripe, w_room, w_tables⟩
theorem atStart : AtStart classFile x code maxLocals ret World_1 tables_1 room_1 Calls_1 rest_1 Pre_1 launch0 p0 e0 about1 theMethod args0 below0 :=
  ⟨lists_1, trivial, launch0.admits_env _ _ _, launch0.least_env, fairChoices_fair.cas, fairChoices_fair.clock, w_frames, w_args, w_heap, w_applies, trivial, trivial, w_case⟩
end start1
theorem witness_1 : WitnessClaimed_1 := ⟨start1.p0, start1.e0, start1.about1, start1.theMethod, start1.args0, start1.below0, start1.atStart⟩
end Jvm.Pilot.@@N@@
