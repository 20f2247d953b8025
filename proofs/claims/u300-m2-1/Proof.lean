import JvmDerived
import JvmDerived.Pilot.@@N@@Statement
import JvmDerived.Pilot.@@N@@Code
set_option linter.unusedVariables false
set_option linter.unusedSimpArgs false
@@BLOCK:NumsL.lean.txt@@
namespace Jvm.RoadKit
open Sem ClassFile Op Lib Jvm.Stand Jvm.Free Jvm.LawKit
section New
variable {p : Program} {l : Launch} {e : Env} {R : Room} {s : State} {m : MethodId} {args : Array Value} {below : List Frame} {meth : Method} {c : Code} {T : State} {locs : List Loc} {cells slots : Nat}
theorem retI (X : Stand p l e R s m args below meth c T locs cells slots) (hx : p.tables.exec = Jvm.exec) {pc : Nat} {Ls : Array Slot} {z : Int32} {rest : List Value} (hret : meth.sig.returnType = some .int) (hd : decode c.code pc = .ok (.ireturn, 1)) {fs : List Frame}
    (hl : ∀ (f : JFrame) (acts : List Action), f.method = m → f.locked = none → f.entered = [] → (doReturn e (T.setTop f) acts (some (.int z))).1 = T.setFrames fs) : Steps p.tables e below (T.setTop (mkF m pc Ls (.int z :: rest))) (T.setFrames fs) := by
  have hm' : T.vm.method? m = some meth := X.method'
  have hn : narrow .int (.int z) = .int z := rfl
  show Steps p.tables e below (T.setTop { method := m, pc := pc, locals := Ls, stack := _ :: rest, locked := none }) _
  jvm_step X.here [X.here.top, hx, hd, hm', hret, hn]
  first | (intro acts; rw [hl _ acts rfl rfl rfl]) | rw [hl _ _ rfl rfl rfl]
  exact Steps.refl _
end New
end Jvm.RoadKit
namespace Jvm.Pilot.@@N@@
open Jvm Jvm.ClassFile Sem Op Lib Jvm.Free Jvm.Stand Jvm.LawKit Jvm.RoadKit Bundle Jvm.Pilot.@@N@@.Jvm.D
theorem own_nz_J {x : Int64} (h : (0 : Int64) < x) : ¬ (x = (0 : Int64)) := by rintro rfl; exact absurd h (by decide)
theorem own_nz_I {x : Int32} (h : (0 : Int32) < x) : ¬ (x = (0 : Int32)) := by rintro rfl; exact absurd h (by decide)
theorem own_fld {s : State} {args : Array Value} {tt : Term} {a : Addr} {C n d : String} {k : Int32} (ev : tt.eval args s none [] s = some (.ref a)) (h : (Jvm.Cond.eq (.field tt C n d) (.int k)).value args s none s [] = some true) : Fld s s.heap a C n d (.int k) := by
  obtain ⟨u, v, hu, hv, k1, k2⟩ := cmp_v (Or.inl h)
  have hv' : v = .int k := (Option.some.inj (hv.symm.trans (Term.int_eval k)))
  subst hv'
  obtain ⟨z, rfl⟩ := k2
  have hz := gotT (Cond.eq_ints hu hv) h
  subst hz
  exact Fld.start (by rw [← fld_at ev]; exact hu)
def own_at (vs : List Int32) (j : Int32) : Int32 := vs.getD j.toNatClampNeg 0
def own_atL (vs : List Int64) (j : Int32) : Int64 := vs.getD j.toNatClampNeg 0
theorem own_getD (vs : List Int32) (j : Int32) : (vs.map Value.int).getD j.toNatClampNeg (.int (0 : Int32)) = .int (own_at vs j) := by
  unfold own_at
  generalize j.toNatClampNeg = k
  induction vs generalizing k with
  | nil => rfl
  | cons a t ih => cases k with
    | zero => rfl
    | succ k => simpa using ih k
theorem own_getDL (vs : List Int64) (j : Int32) : (vs.map Value.long).getD j.toNatClampNeg (.long (0 : Int64)) = .long (own_atL vs j) := by
  unfold own_atL
  generalize j.toNatClampNeg = k
  induction vs generalizing k with
  | nil => rfl
  | cons a t ih => cases k with
    | zero => rfl
    | succ k => simpa using ih k
theorem own_int {s : State} {args : Array Value} {tt : Term} {k : Int32} (h : (Jvm.Cond.eq tt (.int k)).value args s none s [] = some true) : tt.eval args s none [] s = some (.int k) := by
  obtain ⟨u, v, hu, hv, k1, k2⟩ := cmp_v (Or.inl h)
  have hv' : v = .int k := (Option.some.inj (hv.symm.trans (Term.int_eval k)))
  subst hv'
  obtain ⟨z, rfl⟩ := k2
  have hz := gotT (Cond.eq_ints hu hv) h
  subst hz
  exact hu
theorem own_size {n : Nat} (h1 : n < 2 ^ 31) (h2 : n.toInt32 = (256 : Int32)) : n = 256 := by
  have e := len_toInt h1
  rw [h2, show (256 : Int32).toInt = 256 from rfl] at e
  omega
theorem own_hel {s : State} {args : Array Value} {tt : Term} {a : Addr} {cl : Cell} {C : String} {d : Jvm.Cond} (ev : ∀ idx, tt.eval args s none idx s = some (.ref a)) (hA : s.arrayAt? a = some cl) (hs : cl.slots.size = 256) (h : (Jvm.Cond.all tt (Jvm.Cond.and (Jvm.Cond.exactly (Term.elem tt (Term.index 0)) C) d)).value args s none s [] = some true) : ∀ j : Nat, j < 256 → ∃ b : Addr, cl.slots[j]? = some (.ref b) ∧ Exa s s.heap b C := by
  intro j hj
  obtain ⟨g, -⟩ := and_e (Cond.all_elim (ev []) hA h j (by omega))
  obtain ⟨b, hb⟩ := exa_v g
  have e1 := len_toInt (n := j) (by omega)
  have hn : ¬ (j.toInt32 < 0) := by rw [Int32.lt_iff_toInt_lt, show (0 : Int32).toInt = 0 from rfl]; omega
  have e2 : (j.toInt32).toNatClampNeg = j := by
    have := nat_of hn
    omega
  have hix : (Term.index 0).eval args s none [j] s = some (.int j.toInt32) := rfl
  have e3 := elem_f (ev [j]) hix hA hn
  rw [e2] at e3
  have e4 : (Term.elem tt (.int j.toInt32)).eval args s none [] s = some (.ref b) := by
    rw [elem_f (ev []) (Term.int_eval _) hA hn, e2, ← e3]; exact hb
  refine ⟨b, e3.symm.trans hb, Exa.start e4 ?_⟩
  simp only [Cond.value, hb] at g
  simp only [Cond.value, e4]
  exact g
theorem own_boxin {p : Int32} {cl : Cell} (hs : cl.slots.size = 256) (h1 : ¬ p < (-128 : Int32)) (h2 : ¬ (127 : Int32) < p) : ¬ (p + (128 : Int32) < 0 ∨ cl.slots.size ≤ (p + (128 : Int32)).toNatClampNeg) := by
  have e1 := c_iadd p 128
  have e2 := rng32 (p + 128)
  simp only [Int32.lt_iff_toInt_lt, show (-128 : Int32).toInt = -128 from rfl, show (127 : Int32).toInt = 127 from rfl] at h1 h2
  rw [show (128 : Int32).toInt = 128 from rfl] at e1
  have hn : ¬ (p + (128 : Int32) < 0) := by rw [Int32.lt_iff_toInt_lt, show (0 : Int32).toInt = 0 from rfl]; omega
  have e3 := nat_of hn
  rintro (q | q)
  · exact hn q
  · omega
theorem own_boxlt {j : Int32} {cl : Cell} (hs : cl.slots.size = 256) (h : ¬ (j < 0 ∨ cl.slots.size ≤ j.toNatClampNeg)) : j.toNatClampNeg < 256 := Nat.lt_of_not_le fun q => h (Or.inr (hs ▸ q))
theorem own_ni {Z : State} {a0 : Array Value} {I N O K : String} {n : Nat} (w1 : (Jvm.Cond.superclass I N).before a0 Z = true) (w2 : (Jvm.Cond.superclass N O).before a0 Z = true) (w3 : (Jvm.Cond.noSuperclass O).before a0 Z = true) (wk : (Jvm.Cond.instantiable K n).before a0 Z = true) (h1 : I ≠ K) (h2 : N ≠ K) (h3 : O ≠ K) : ∃ c t, Z.vm.findClass I = some c ∧ Z.vm.findClass K = some t ∧ Z.vm.assignable c t = false := by
  obtain ⟨t, kt, t1, t2, t3, t4, -⟩ := Cond.instantiable_spec wk
  obtain ⟨ci, i0⟩ := found_sup w1
  obtain ⟨cn, ki, kn, i1, i2, i3, i4, i5, -, i6⟩ := Cond.superclass_spec i0 w1
  obtain ⟨co, kn', ko, n1, n2, n3, n4, -⟩ := Cond.superclass_spec i1 w2
  obtain ⟨co', ko', o1, o2, o3, -⟩ := Cond.noSuperclass_spec w3
  cases n1.symm.trans o1
  have q1 := ids_ne i0 t1 h1
  have q2 := ids_ne i1 t1 h2
  have q3 := ids_ne n1 t1 h3
  have s3 : ∀ fuel, Z.vm.isSubclassAux fuel co t = false := fun fuel => by
    cases fuel with
    | zero => rfl
    | succ f => simp [Vm.isSubclassAux, q3, o2, o3]
  have s2 : ∀ fuel, Z.vm.isSubclassAux fuel cn t = false := fun fuel => by
    cases fuel with
    | zero => rfl
    | succ f => simp [Vm.isSubclassAux, q2, n2, n4, s3]
  have s1 : ∀ fuel, Z.vm.isSubclassAux fuel ci t = false := fun fuel => by
    cases fuel with
    | zero => rfl
    | succ f => simp [Vm.isSubclassAux, q1, i2, i4, s2]
  simp only [Bool.or_eq_false_iff] at t4
  refine ⟨ci, t, i0, t1, ?_⟩
  show Z.vm.assignableAux (255 + 1) ci t = false
  simp [Vm.assignableAux, q1, i2, t2, i5, t3, t4.1, Vm.isSubclass, s1]
theorem d1_0 : decode jdk_29_method_65_code 0 = .ok (.iload_n 0, 1) := by decide +kernel
theorem d1_1 : decode jdk_29_method_65_code 1 = .ok (.iload_n 1, 1) := by decide +kernel
theorem d1_2 : decode jdk_29_method_65_code 2 = .ok (.if_icmp .lt 7, 3) := by decide +kernel
theorem d1_5 : decode jdk_29_method_65_code 5 = .ok (.iload_n 0, 1) := by decide +kernel
theorem d1_6 : decode jdk_29_method_65_code 6 = .ok (.goto 4, 3) := by decide +kernel
theorem d1_9 : decode jdk_29_method_65_code 9 = .ok (.iload_n 1, 1) := by decide +kernel
theorem d1_10 : decode jdk_29_method_65_code 10 = .ok (.ireturn, 1) := by decide +kernel
theorem ef_1 (m : MethodId) (x0 : Int32) (x1 : Int32) : entryFrame m #[(.int x0), (.int x1)] 2 = mkF m 0 #[.val (.int x0), .val (.int x1)] [] := by first | (simp [entryFrame, mkF, argsToLocals, Value.category]; done) | rfl
def f1 (p1 : Int32) (p2 : Int32) : Int32 := (if p1 < p2 then p2 else p1)
def Q1 (Z : State) (p1 : Int32) (p2 : Int32) (h0 : Heap) (n0 : Nat) (v : Option Value) (h : Heap) (L : List Loc) : Prop := v = some (.int (f1 p1 p2)) ∧ Fr n0 L ∧ h = h0
set_option maxRecDepth 65536 in
set_option maxHeartbeats 40000000 in
theorem rm1 (l : Launch) (Z : State) (a0 : Array Value) (hw : ∀ d ∈ tables_1, d.before a0 Z = true) (ws : List Jvm.Cond) (p1 : Int32) (p2 : Int32) (h0 : Heap) (n0 : Nat) (Z0 : n0 ≤ h0.size) :
    MetFree l (⟨"java/lang/Math", "max", "(II)I"⟩ : MethodName) (head1 (Jvm.Cond.code (⟨"java/lang/Math", "max", "(II)I"⟩ : MethodName) jdk_29_method_65_code 2 (some .int) :: ws) ({ frames := 0, cells := 0, slots := 0, locals := 0 } : Room)) (fun a U => a = #[(.int p1), (.int p2)] ∧ Z.Warmed39 U.vm ∧ U.heap = h0) (fun _ _ _ _ _ => True) (fun _ U o U' => ∃ v L, o = .returned v ∧ Q1 Z p1 p2 h0 n0 v U'.heap L ∧ FrameEnd U o U' L ({ frames := 0, cells := 0, slots := 0, locals := 0 } : Room).cells ({ frames := 0, cells := 0, slots := 0, locals := 0 } : Room).slots) := by
  refine MetFree.of_bodySF (Jvm.Free.JP.mathPlain rfl (by decide +kernel)) hisR ?_
  intro p e s m args below meth c s₁ Bd hml0 hP hK
  obtain ⟨rfl, hZ, hh⟩ := hP
  have hx := Bd.exec
  have hby := Bd.bytes
  have hml : c.maxLocals = 2 := hml0
  have hown : s.vm.findClass "java/lang/Math" = some m.cls := findClass_of_methodNamed Bd.named
  have hnm := (name_of_methodNamed Bd.named Bd.method).1
  have X0 : Stand p l e ({ frames := 0, cells := 0, slots := 0, locals := 0 } : Room) s m #[(.int p1), (.int p2)] below meth c s₁ [] 0 0 := Stand.of_body Bd
  have e0 : s₁.heap = h0 := by rw [← hh, Bd.state]; rfl
  have N0 := Fr.nil n0
  have pre0 : ∀ t, Steps p.tables e below (s₁.setTop (mkF m 0 #[.val (.int p1), .val (.int p2)] [])) t → Steps p.tables e below (s₁.setTop (entryFrame m #[(.int p1), (.int p2)] 2)) t := fun t k => castTop (ef_1 m p1 p2) k
  have pre3 : ∀ t, Steps p.tables e below (s₁.setTop (mkF m 2 #[.val (.int p1), .val (.int p2)] [(.int p2), (.int p1)])) t → Steps p.tables e below (s₁.setTop (entryFrame m #[(.int p1), (.int p2)] 2)) t := fun t kt => by
    refine pre0 _ ?_
    show Steps p.tables e below (s₁.setTop (mkF m 0 #[.val (.int p1), .val (.int p2)] [])) _
    refine XS.iloadN X0.here hx rfl (hb hby d1_0) rfl ?_
    show Steps p.tables e below (s₁.setTop (mkF m 1 _ [(.int p1)])) _
    refine XS.iloadN X0.here hx rfl (hb hby d1_1) rfl ?_
    exact kt
  by_cases hc4 : p1 < p2
  · skip
    obtain ⟨fs, hr, hrun, hended, hW, hsame⟩ := X0.leave (v := some (.int p2)) (fun h => by rw [Bd.returns] at h; cases h) (by first | exact BodyLoose.notSynchronized Bd | exact Body.notSynchronized Bd)
    refine ⟨_, _, pre3 _ ?_, hrun, hended, _, _, rfl, ?_, ⟨_, rfl⟩, hW, hsame.mono (by decide) (by decide)⟩
    · show Steps p.tables e below (s₁.setTop (mkF m 2 #[.val (.int p1), .val (.int p2)] [(.int p2), (.int p1)])) _
      refine XS.icmpYes X0.here hx rfl (pc0 := 2) (pc' := 9) rfl (hb hby d1_2) rfl (tlt hc4).1 (by decide) (by decide) ?_
      show Steps p.tables e below (s₁.setTop (mkF m 9 _ [])) _
      refine XS.iloadN X0.here hx rfl (hb hby d1_9) rfl ?_
      show Steps p.tables e below (s₁.setTop (mkF m 10 #[.val (.int p1), .val (.int p2)] [(.int p2)])) _
      exact retI X0 hx Bd.returns (hb hby d1_10) hr
    · show Q1 Z p1 p2 h0 n0 _ s₁.heap _
      rw [e0]
      exact ⟨congrArg (fun z => some (Value.int z)) (by rw [f1, if_pos hc4] : f1 p1 p2 = p2).symm, N0, rfl⟩
  · skip
    obtain ⟨fs, hr, hrun, hended, hW, hsame⟩ := X0.leave (v := some (.int p1)) (fun h => by rw [Bd.returns] at h; cases h) (by first | exact BodyLoose.notSynchronized Bd | exact Body.notSynchronized Bd)
    refine ⟨_, _, pre3 _ ?_, hrun, hended, _, _, rfl, ?_, ⟨_, rfl⟩, hW, hsame.mono (by decide) (by decide)⟩
    · show Steps p.tables e below (s₁.setTop (mkF m 2 #[.val (.int p1), .val (.int p2)] [(.int p2), (.int p1)])) _
      refine XS.icmpNo X0.here hx rfl (hb hby d1_2) rfl (flt hc4).1 ?_
      show Steps p.tables e below (s₁.setTop (mkF m 5 _ [])) _
      refine XS.iloadN X0.here hx rfl (hb hby d1_5) rfl ?_
      show Steps p.tables e below (s₁.setTop (mkF m 6 _ [(.int p1)])) _
      refine XS.goto X0.here hx rfl (pc0 := 6) (pc' := 10) rfl (hb hby d1_6) (by decide) (by decide) ?_
      show Steps p.tables e below (s₁.setTop (mkF m 10 #[.val (.int p1), .val (.int p2)] [(.int p1)])) _
      exact retI X0 hx Bd.returns (hb hby d1_10) hr
    · show Q1 Z p1 p2 h0 n0 _ s₁.heap _
      rw [e0]
      exact ⟨congrArg (fun z => some (Value.int z)) (by rw [f1, if_neg hc4] : f1 p1 p2 = p1).symm, N0, rfl⟩
theorem d2_0 : decode prog_47_method_1_code 0 = .ok (.aload_n 0, 1) := by decide +kernel
theorem d2_1 : decode prog_47_method_1_code 1 = .ok (.invokespecial 1, 3) := by decide +kernel
theorem d2_4 : decode prog_47_method_1_code 4 = .ok (.iload_n 1, 1) := by decide +kernel
theorem d2_5 : decode prog_47_method_1_code 5 = .ok (.iconst 1, 1) := by decide +kernel
theorem d2_6 : decode prog_47_method_1_code 6 = .ok (.if_icmp .lt 8, 3) := by decide +kernel
theorem d2_9 : decode prog_47_method_1_code 9 = .ok (.iload_n 2, 1) := by decide +kernel
theorem d2_10 : decode prog_47_method_1_code 10 = .ok (.iconst 1, 1) := by decide +kernel
theorem d2_11 : decode prog_47_method_1_code 11 = .ok (.if_icmp .ge 18, 3) := by decide +kernel
theorem d2_29 : decode prog_47_method_1_code 29 = .ok (.aload_n 0, 1) := by decide +kernel
theorem d2_30 : decode prog_47_method_1_code 30 = .ok (.iload_n 1, 1) := by decide +kernel
theorem d2_31 : decode prog_47_method_1_code 31 = .ok (.putfield 16, 3) := by decide +kernel
theorem d2_34 : decode prog_47_method_1_code 34 = .ok (.aload_n 0, 1) := by decide +kernel
theorem d2_35 : decode prog_47_method_1_code 35 = .ok (.iload_n 2, 1) := by decide +kernel
theorem d2_36 : decode prog_47_method_1_code 36 = .ok (.putfield 22, 3) := by decide +kernel
theorem d2_39 : decode prog_47_method_1_code 39 = .ok (.return_, 1) := by decide +kernel
theorem pn_2 : plainName "com/example/neat_contract/neatcontract/document/Position" = true := by first | (simp [plainName, overriddenIn]; done) | decide +kernel
theorem ef_2 (m : MethodId) (x0 : Addr) (x1 : Int32) (x2 : Int32) : entryFrame m #[(.ref x0), (.int x1), (.int x2)] 3 = mkF m 0 #[.val (.ref x0), .val (.int x1), .val (.int x2)] [] := by first | (simp [entryFrame, mkF, argsToLocals, Value.category]; done) | rfl
def Q2 (Z : State) (a1 : Addr) (p2 : Int32) (p3 : Int32) (u_line_a1 : Value) (u_column_a1 : Value) (h0 : Heap) (n0 : Nat) (v : Option Value) (h : Heap) (L : List Loc) : Prop := v = none ∧ Fr n0 L ∧ Keep h0 h [a1] ∧ Exa Z h a1 "com/example/neat_contract/neatcontract/document/Position" ∧ Fld Z h a1 "com/example/neat_contract/neatcontract/document/Position" "line" "I" (.int p2) ∧ Fld Z h a1 "com/example/neat_contract/neatcontract/document/Position" "column" "I" (.int p3)
set_option maxRecDepth 65536 in
set_option maxHeartbeats 40000000 in
theorem rm2 (l : Launch) (Z : State) (a0 : Array Value) (hw : ∀ d ∈ tables_1, d.before a0 Z = true) (ws : List Jvm.Cond) (a1 : Addr) (p2 : Int32) (p3 : Int32) (u_line_a1 : Value) (u_column_a1 : Value) (h0 : Heap) (n0 : Nat) (Z0 : n0 ≤ h0.size) (hg1 : ¬ (p2 < (1 : Int32))) (hg2 : ¬ (p3 < (1 : Int32))) (E_a1 : Exa Z h0 a1 "com/example/neat_contract/neatcontract/document/Position") (F_line_a1 : Fld Z h0 a1 "com/example/neat_contract/neatcontract/document/Position" "line" "I" u_line_a1) (F_column_a1 : Fld Z h0 a1 "com/example/neat_contract/neatcontract/document/Position" "column" "I" u_column_a1) (g_a1 : n0 ≤ a1) :
    MetFree l (⟨"com/example/neat_contract/neatcontract/document/Position", "<init>", "(II)V"⟩ : MethodName) (head1 (Jvm.Cond.code (⟨"com/example/neat_contract/neatcontract/document/Position", "<init>", "(II)V"⟩ : MethodName) prog_47_method_1_code 3 none :: ws) ({ frames := 1, cells := 0, slots := 0, locals := 12 } : Room)) (fun a U => a = #[(.ref a1), (.int p2), (.int p3)] ∧ Z.Warmed39 U.vm ∧ U.heap = h0) (fun _ _ _ _ _ => True) (fun _ U o U' => ∃ v L, o = .returned v ∧ Q2 Z a1 p2 p3 u_line_a1 u_column_a1 h0 n0 v U'.heap L ∧ FrameEnd U o U' L ({ frames := 1, cells := 0, slots := 0, locals := 12 } : Room).cells ({ frames := 1, cells := 0, slots := 0, locals := 12 } : Room).slots) := by
  refine MetFree.of_bodySF (plainFor_of_name pn_2) hisR ?_
  intro p e s m args below meth c s₁ Bd hml0 hP hK
  obtain ⟨rfl, hZ, hh⟩ := hP
  have hx := Bd.exec
  have hby := Bd.bytes
  have hml : c.maxLocals = 3 := hml0
  have hown : s.vm.findClass "com/example/neat_contract/neatcontract/document/Position" = some m.cls := findClass_of_methodNamed Bd.named
  have hnm := (name_of_methodNamed Bd.named Bd.method).1
  have X0 : Stand p l e ({ frames := 1, cells := 0, slots := 0, locals := 12 } : Room) s m #[(.ref a1), (.int p2), (.int p3)] below meth c s₁ [] 0 0 := Stand.of_body Bd
  have e0 : s₁.heap = h0 := by rw [← hh, Bd.state]; rfl
  have N0 := Fr.nil n0
  have pre0 : ∀ t, Steps p.tables e below (s₁.setTop (mkF m 0 #[.val (.ref a1), .val (.int p2), .val (.int p3)] [])) t → Steps p.tables e below (s₁.setTop (entryFrame m #[(.ref a1), (.int p2), (.int p3)] 3)) t := fun t k => castTop (ef_2 m a1 p2 p3) k
  obtain ⟨T4, X4, e4, st4⟩ := initO X0 hx hZ hown (hw _ (List.mem_of_getElem? (i := 11) rfl)) (hw _ (List.mem_of_getElem? (i := 12) rfl)) (hw _ (List.mem_of_getElem? (i := 13) rfl)) e0 (g := (mkF m 1 #[.val (.ref a1), .val (.int p2), .val (.int p3)] [(.ref a1)])) rfl (by rw [hml]; rfl) rfl (hb hby d2_1) (by decide) (W := 0) (by show 2 * 0 + _ ≤ _; exact Nat.le_of_eq rfl) (by decide)
  obtain ⟨T5, h5, X5, e5, W5, st5⟩ := putF X4 hx hZ hown (host := "") (Or.inl (hw _ (List.mem_of_getElem? (i := 14) rfl))) Via.refl e4 F_line_a1 E_a1 (Or.inr ⟨(hw _ (List.mem_of_getElem? (i := 15) rfl)), rfl, hnm⟩) (hw _ (List.mem_of_getElem? (i := 6) rfl)) (ty := .int) (by decide) rfl rfl (g := (mkF m 31 #[.val (.ref a1), .val (.int p2), .val (.int p3)] [(.int p2), (.ref a1)])) rfl rfl (hb hby d2_31)
  have Fw5 := F_line_a1.same W5
  have N5 := Fr.snoc X5 N0 g_a1
  have K5 : Keep h0 h5 [a1] := (Keep.refl h0 [a1]).wr W5 (Or.inl (List.mem_of_getElem? (i := 0) rfl))
  have F6 := (F_column_a1.other W5 (Or.inr (slot_ne (Or.inr (hw _ (List.mem_of_getElem? (i := 17) rfl))) (Or.inr (hw _ (List.mem_of_getElem? (i := 15) rfl))) (by decide) (t := .int) (t' := .int) (by decide) (by decide))))
  have Ex7 := (E_a1.wr W5)
  have Zs8 : n0 ≤ h5.size := (Nat.le_trans Z0 (Keep.of_wr W5).1)
  obtain ⟨T9, h9, X9, e9, W9, st9⟩ := putF X5 hx hZ hown (host := "") (Or.inl (hw _ (List.mem_of_getElem? (i := 16) rfl))) Via.refl e5 F6 Ex7 (Or.inr ⟨(hw _ (List.mem_of_getElem? (i := 17) rfl)), rfl, hnm⟩) (hw _ (List.mem_of_getElem? (i := 6) rfl)) (ty := .int) (by decide) rfl rfl (g := (mkF m 36 #[.val (.ref a1), .val (.int p2), .val (.int p3)] [(.int p3), (.ref a1)])) rfl rfl (hb hby d2_36)
  have Fw9 := F6.same W9
  have N9 := Fr.snoc X9 N5 g_a1
  have K9 : Keep h0 h9 [a1] := K5.wr W9 (Or.inl (List.mem_of_getElem? (i := 0) rfl))
  obtain ⟨fs, hr, hrun, hended, hW, hsame⟩ := X9.leave (v := none) (fun _ => rfl) (by first | exact BodyLoose.notSynchronized Bd | exact Body.notSynchronized Bd)
  refine ⟨_, _, pre0 _ ?_, hrun, hended, _, _, rfl, ?_, ⟨_, rfl⟩, hW, hsame.mono (by decide) (by decide)⟩
  · show Steps p.tables e below (s₁.setTop (mkF m 0 #[.val (.ref a1), .val (.int p2), .val (.int p3)] [])) _
    refine XS.aloadN X0.here hx rfl (hb hby d2_0) rfl rfl ?_
    show Steps p.tables e below (s₁.setTop (mkF m 1 _ [(.ref a1)])) _
    refine st4 _ ?_
    show Steps p.tables e below (T4.setTop (mkF m 4 _ [])) _
    refine XS.iloadN X4.here hx rfl (hb hby d2_4) rfl ?_
    show Steps p.tables e below (T4.setTop (mkF m 5 _ [(.int p2)])) _
    refine XS.iconst X4.here hx rfl (hb hby d2_5) ?_
    show Steps p.tables e below (T4.setTop (mkF m 6 _ [(.int (1 : Int32)), (.int p2)])) _
    refine XS.icmpNo X4.here hx rfl (hb hby d2_6) rfl (flt (hg1)).1 ?_
    show Steps p.tables e below (T4.setTop (mkF m 9 _ [])) _
    refine XS.iloadN X4.here hx rfl (hb hby d2_9) rfl ?_
    show Steps p.tables e below (T4.setTop (mkF m 10 _ [(.int p3)])) _
    refine XS.iconst X4.here hx rfl (hb hby d2_10) ?_
    show Steps p.tables e below (T4.setTop (mkF m 11 _ [(.int (1 : Int32)), (.int p3)])) _
    refine XS.icmpYes X4.here hx rfl (pc0 := 11) (pc' := 29) rfl (hb hby d2_11) rfl (flt (hg2)).2.1 (by decide) (by decide) ?_
    show Steps p.tables e below (T4.setTop (mkF m 29 _ [])) _
    refine XS.aloadN X4.here hx rfl (hb hby d2_29) rfl rfl ?_
    show Steps p.tables e below (T4.setTop (mkF m 30 _ [(.ref a1)])) _
    refine XS.iloadN X4.here hx rfl (hb hby d2_30) rfl ?_
    show Steps p.tables e below (T4.setTop (mkF m 31 _ [(.int p2), (.ref a1)])) _
    refine st5 _ ?_
    show Steps p.tables e below (T5.setTop (mkF m 34 _ [])) _
    refine XS.aloadN X5.here hx rfl (hb hby d2_34) rfl rfl ?_
    show Steps p.tables e below (T5.setTop (mkF m 35 _ [(.ref a1)])) _
    refine XS.iloadN X5.here hx rfl (hb hby d2_35) rfl ?_
    show Steps p.tables e below (T5.setTop (mkF m 36 _ [(.int p3), (.ref a1)])) _
    refine st9 _ ?_
    show Steps p.tables e below (T9.setTop (mkF m 39 #[.val (.ref a1), .val (.int p2), .val (.int p3)] [])) _
    exact X9.returnOut hx Bd.returns (hb hby d2_39) hr
  · show Q2 Z a1 p2 p3 u_line_a1 u_column_a1 h0 n0 _ T9.heap _
    rw [e9]
    have F10 := (Fw5.other W9 (Or.inr (slot_ne (Or.inr (hw _ (List.mem_of_getElem? (i := 15) rfl))) (Or.inr (hw _ (List.mem_of_getElem? (i := 17) rfl))) (by decide) (t := .int) (t' := .int) (by decide) (by decide))))
    have Ex11 := (Ex7.wr W9)
    have Zs12 : n0 ≤ h9.size := (Nat.le_trans Zs8 (Keep.of_wr W9).1)
    exact ⟨rfl, N9, K9, Ex11, F10, Fw9⟩
theorem d4_0 : decode prog_47_method_13_code 0 = .ok (.aload_n 1, 1) := by decide +kernel
theorem d4_1 : decode prog_47_method_13_code 1 = .ok (.instanceof 17, 3) := by decide +kernel
theorem d4_4 : decode prog_47_method_13_code 4 = .ok (.ifCond .eq 34, 3) := by decide +kernel
theorem d4_7 : decode prog_47_method_13_code 7 = .ok (.aload_n 1, 1) := by decide +kernel
theorem d4_8 : decode prog_47_method_13_code 8 = .ok (.checkcast 17, 3) := by decide +kernel
theorem d4_11 : decode prog_47_method_13_code 11 = .ok (.astore_n 2, 1) := by decide +kernel
theorem d4_12 : decode prog_47_method_13_code 12 = .ok (.aload_n 0, 1) := by decide +kernel
theorem d4_13 : decode prog_47_method_13_code 13 = .ok (.getfield 16, 3) := by decide +kernel
theorem d4_16 : decode prog_47_method_13_code 16 = .ok (.aload_n 2, 1) := by decide +kernel
theorem d4_17 : decode prog_47_method_13_code 17 = .ok (.getfield 16, 3) := by decide +kernel
theorem d4_20 : decode prog_47_method_13_code 20 = .ok (.if_icmp .ne 18, 3) := by decide +kernel
theorem d4_23 : decode prog_47_method_13_code 23 = .ok (.aload_n 0, 1) := by decide +kernel
theorem d4_24 : decode prog_47_method_13_code 24 = .ok (.getfield 22, 3) := by decide +kernel
theorem d4_27 : decode prog_47_method_13_code 27 = .ok (.aload_n 2, 1) := by decide +kernel
theorem d4_28 : decode prog_47_method_13_code 28 = .ok (.getfield 22, 3) := by decide +kernel
theorem d4_31 : decode prog_47_method_13_code 31 = .ok (.if_icmp .ne 7, 3) := by decide +kernel
theorem d4_34 : decode prog_47_method_13_code 34 = .ok (.iconst 1, 1) := by decide +kernel
theorem d4_35 : decode prog_47_method_13_code 35 = .ok (.goto 4, 3) := by decide +kernel
theorem d4_38 : decode prog_47_method_13_code 38 = .ok (.iconst 0, 1) := by decide +kernel
theorem d4_39 : decode prog_47_method_13_code 39 = .ok (.ireturn, 1) := by decide +kernel
theorem pn_4 : plainName "com/example/neat_contract/neatcontract/document/Position" = true := by first | (simp [plainName, overriddenIn]; done) | decide +kernel
theorem ef_4 (m : MethodId) (x0 : Addr) (x1 : Addr) : entryFrame m #[(.ref x0), (.ref x1)] 3 = mkF m 0 #[.val (.ref x0), .val (.ref x1), .unset] [] := by first | (simp [entryFrame, mkF, argsToLocals, Value.category]; done) | rfl
def f4 (w_line_a1 : Int32) (w_line_a2 : Int32) (w_column_a1 : Int32) (w_column_a2 : Int32) : Int32 := (if w_line_a1 = w_line_a2 then (if w_column_a1 = w_column_a2 then (1 : Int32) else (0 : Int32)) else (0 : Int32))
def Q4 (Z : State) (a1 : Addr) (a2 : Addr) (w_line_a1 : Int32) (w_line_a2 : Int32) (w_column_a1 : Int32) (w_column_a2 : Int32) (h0 : Heap) (n0 : Nat) (v : Option Value) (h : Heap) (L : List Loc) : Prop := v = some (.int (f4 w_line_a1 w_line_a2 w_column_a1 w_column_a2)) ∧ Fr n0 L ∧ h = h0
set_option maxRecDepth 65536 in
set_option maxHeartbeats 40000000 in
theorem rm4 (l : Launch) (Z : State) (a0 : Array Value) (hw : ∀ d ∈ tables_1, d.before a0 Z = true) (ws : List Jvm.Cond) (a1 : Addr) (a2 : Addr) (w_line_a1 : Int32) (w_line_a2 : Int32) (w_column_a1 : Int32) (w_column_a2 : Int32) (h0 : Heap) (n0 : Nat) (Z0 : n0 ≤ h0.size) (E_a2 : Exa Z h0 a2 "com/example/neat_contract/neatcontract/document/Position") (F_line_a1 : Fld Z h0 a1 "com/example/neat_contract/neatcontract/document/Position" "line" "I" (.int w_line_a1)) (F_line_a2 : Fld Z h0 a2 "com/example/neat_contract/neatcontract/document/Position" "line" "I" (.int w_line_a2)) (F_column_a1 : Fld Z h0 a1 "com/example/neat_contract/neatcontract/document/Position" "column" "I" (.int w_column_a1)) (F_column_a2 : Fld Z h0 a2 "com/example/neat_contract/neatcontract/document/Position" "column" "I" (.int w_column_a2)) :
    MetFree l (⟨"com/example/neat_contract/neatcontract/document/Position", "equals", "(Ljava/lang/Object;)Z"⟩ : MethodName) (head1 (Jvm.Cond.code (⟨"com/example/neat_contract/neatcontract/document/Position", "equals", "(Ljava/lang/Object;)Z"⟩ : MethodName) prog_47_method_13_code 3 (some .boolean) :: ws) ({ frames := 0, cells := 0, slots := 0, locals := 0 } : Room)) (fun a U => a = #[(.ref a1), (.ref a2)] ∧ Z.Warmed39 U.vm ∧ U.heap = h0) (fun _ _ _ _ _ => True) (fun _ U o U' => ∃ v L, o = .returned v ∧ Q4 Z a1 a2 w_line_a1 w_line_a2 w_column_a1 w_column_a2 h0 n0 v U'.heap L ∧ FrameEnd U o U' L ({ frames := 0, cells := 0, slots := 0, locals := 0 } : Room).cells ({ frames := 0, cells := 0, slots := 0, locals := 0 } : Room).slots) := by
  refine MetFree.of_bodySF (plainFor_of_name pn_4) hisR ?_
  intro p e s m args below meth c s₁ Bd hml0 hP hK
  obtain ⟨rfl, hZ, hh⟩ := hP
  have hx := Bd.exec
  have hby := Bd.bytes
  have hml : c.maxLocals = 3 := hml0
  have hown : s.vm.findClass "com/example/neat_contract/neatcontract/document/Position" = some m.cls := findClass_of_methodNamed Bd.named
  have hnm := (name_of_methodNamed Bd.named Bd.method).1
  have X0 : Stand p l e ({ frames := 0, cells := 0, slots := 0, locals := 0 } : Room) s m #[(.ref a1), (.ref a2)] below meth c s₁ [] 0 0 := Stand.of_body Bd
  have e0 : s₁.heap = h0 := by rw [← hh, Bd.state]; rfl
  have N0 := Fr.nil n0
  have pre0 : ∀ t, Steps p.tables e below (s₁.setTop (mkF m 0 #[.val (.ref a1), .val (.ref a2), .unset] [])) t → Steps p.tables e below (s₁.setTop (entryFrame m #[(.ref a1), (.ref a2)] 3)) t := fun t k => castTop (ef_4 m a1 a2) k
  obtain ⟨T3, X3, e3, st3⟩ := instY X0 hx hZ hown (hw _ (List.mem_of_getElem? (i := 23) rfl)) e0 (Ins.self E_a2) (g := (mkF m 1 #[.val (.ref a1), .val (.ref a2), .unset] [(.ref a2)])) rfl rfl (hb hby d4_1)
  obtain ⟨T4, X4, e4, st4⟩ := castY X3 hx hZ hown (hw _ (List.mem_of_getElem? (i := 23) rfl)) e3 (Ins.self E_a2) (g := (mkF m 8 #[.val (.ref a1), .val (.ref a2), .unset] [(.ref a2)])) rfl rfl (hb hby d4_8)
  obtain ⟨T5, X5, e5, st5⟩ := getF X4 hx hZ hown (host := "") (Or.inl (hw _ (List.mem_of_getElem? (i := 14) rfl))) Via.refl e4 F_line_a1 (g := (mkF m 13 #[.val (.ref a1), .val (.ref a2), .val (.ref a2)] [(.ref a1)])) rfl rfl (hb hby d4_13)
  obtain ⟨T6, X6, e6, st6⟩ := getF X5 hx hZ hown (host := "") (Or.inl (hw _ (List.mem_of_getElem? (i := 14) rfl))) Via.refl e5 F_line_a2 (g := (mkF m 17 #[.val (.ref a1), .val (.ref a2), .val (.ref a2)] [(.ref a2), (.int w_line_a1)])) rfl rfl (hb hby d4_17)
  have pre7 : ∀ t, Steps p.tables e below (T6.setTop (mkF m 20 #[.val (.ref a1), .val (.ref a2), .val (.ref a2)] [(.int w_line_a2), (.int w_line_a1)])) t → Steps p.tables e below (s₁.setTop (entryFrame m #[(.ref a1), (.ref a2)] 3)) t := fun t kt => by
    refine pre0 _ ?_
    show Steps p.tables e below (s₁.setTop (mkF m 0 #[.val (.ref a1), .val (.ref a2), .unset] [])) _
    refine XS.aloadN X0.here hx rfl (hb hby d4_0) rfl rfl ?_
    show Steps p.tables e below (s₁.setTop (mkF m 1 _ [(.ref a2)])) _
    refine st3 _ ?_
    show Steps p.tables e below (T3.setTop (mkF m 4 _ [(.int (1 : Int32))])) _
    refine XS.ifNo X3.here hx rfl (hb hby d4_4) rfl ((if0 _ _).trans (feq (by decide)).1) ?_
    show Steps p.tables e below (T3.setTop (mkF m 7 _ [])) _
    refine XS.aloadN X3.here hx rfl (hb hby d4_7) rfl rfl ?_
    show Steps p.tables e below (T3.setTop (mkF m 8 _ [(.ref a2)])) _
    refine st4 _ ?_
    show Steps p.tables e below (T4.setTop (mkF m 11 _ [(.ref a2)])) _
    refine XS.astoreN X4.here hx rfl (hb hby d4_11) rfl rfl (l' := #[.val (.ref a1), .val (.ref a2), .val (.ref a2)]) rfl ?_
    show Steps p.tables e below (T4.setTop (mkF m 12 _ [])) _
    refine XS.aloadN X4.here hx rfl (hb hby d4_12) rfl rfl ?_
    show Steps p.tables e below (T4.setTop (mkF m 13 _ [(.ref a1)])) _
    refine st5 _ ?_
    show Steps p.tables e below (T5.setTop (mkF m 16 _ [(.int w_line_a1)])) _
    refine XS.aloadN X5.here hx rfl (hb hby d4_16) rfl rfl ?_
    show Steps p.tables e below (T5.setTop (mkF m 17 _ [(.ref a2), (.int w_line_a1)])) _
    refine st6 _ ?_
    exact kt
  by_cases hc8 : w_line_a1 = w_line_a2
  · skip
    obtain ⟨T9, X9, e9, st9⟩ := getF X6 hx hZ hown (host := "") (Or.inl (hw _ (List.mem_of_getElem? (i := 16) rfl))) Via.refl e6 F_column_a1 (g := (mkF m 24 #[.val (.ref a1), .val (.ref a2), .val (.ref a2)] [(.ref a1)])) rfl rfl (hb hby d4_24)
    obtain ⟨T10, X10, e10, st10⟩ := getF X9 hx hZ hown (host := "") (Or.inl (hw _ (List.mem_of_getElem? (i := 16) rfl))) Via.refl e9 F_column_a2 (g := (mkF m 28 #[.val (.ref a1), .val (.ref a2), .val (.ref a2)] [(.ref a2), (.int w_column_a1)])) rfl rfl (hb hby d4_28)
    have pre11 : ∀ t, Steps p.tables e below (T10.setTop (mkF m 31 #[.val (.ref a1), .val (.ref a2), .val (.ref a2)] [(.int w_column_a2), (.int w_column_a1)])) t → Steps p.tables e below (s₁.setTop (entryFrame m #[(.ref a1), (.ref a2)] 3)) t := fun t kt => by
      refine pre7 _ ?_
      show Steps p.tables e below (T6.setTop (mkF m 20 #[.val (.ref a1), .val (.ref a2), .val (.ref a2)] [(.int w_line_a2), (.int w_line_a1)])) _
      refine XS.icmpNo X6.here hx rfl (hb hby d4_20) rfl (teq hc8).2 ?_
      show Steps p.tables e below (T6.setTop (mkF m 23 _ [])) _
      refine XS.aloadN X6.here hx rfl (hb hby d4_23) rfl rfl ?_
      show Steps p.tables e below (T6.setTop (mkF m 24 _ [(.ref a1)])) _
      refine st9 _ ?_
      show Steps p.tables e below (T9.setTop (mkF m 27 _ [(.int w_column_a1)])) _
      refine XS.aloadN X9.here hx rfl (hb hby d4_27) rfl rfl ?_
      show Steps p.tables e below (T9.setTop (mkF m 28 _ [(.ref a2), (.int w_column_a1)])) _
      refine st10 _ ?_
      exact kt
    by_cases hc12 : w_column_a1 = w_column_a2
    · skip
      obtain ⟨fs, hr, hrun, hended, hW, hsame⟩ := X10.leave (v := some (.int (1 : Int32))) (fun h => by rw [Bd.returns] at h; cases h) (by first | exact BodyLoose.notSynchronized Bd | exact Body.notSynchronized Bd)
      refine ⟨_, _, pre11 _ ?_, hrun, hended, _, _, rfl, ?_, ⟨_, rfl⟩, hW, hsame.mono (by decide) (by decide)⟩
      · show Steps p.tables e below (T10.setTop (mkF m 31 #[.val (.ref a1), .val (.ref a2), .val (.ref a2)] [(.int w_column_a2), (.int w_column_a1)])) _
        refine XS.icmpNo X10.here hx rfl (hb hby d4_31) rfl (teq hc12).2 ?_
        show Steps p.tables e below (T10.setTop (mkF m 34 _ [])) _
        refine XS.iconst X10.here hx rfl (hb hby d4_34) ?_
        show Steps p.tables e below (T10.setTop (mkF m 35 _ [(.int (1 : Int32))])) _
        refine XS.goto X10.here hx rfl (pc0 := 35) (pc' := 39) rfl (hb hby d4_35) (by decide) (by decide) ?_
        show Steps p.tables e below (T10.setTop (mkF m 39 #[.val (.ref a1), .val (.ref a2), .val (.ref a2)] [(.int (1 : Int32))])) _
        exact retN X10 hx (t := .boolean) Bd.returns (by simp) (hb hby d4_39) hr
      · show Q4 Z a1 a2 w_line_a1 w_line_a2 w_column_a1 w_column_a2 h0 n0 _ T10.heap _
        rw [e10]
        exact ⟨congrArg (fun z => some (Value.int z)) (by rw [f4, if_pos hc8, if_pos hc12] : f4 w_line_a1 w_line_a2 w_column_a1 w_column_a2 = (1 : Int32)).symm, N0, rfl⟩
    · skip
      obtain ⟨fs, hr, hrun, hended, hW, hsame⟩ := X10.leave (v := some (.int (0 : Int32))) (fun h => by rw [Bd.returns] at h; cases h) (by first | exact BodyLoose.notSynchronized Bd | exact Body.notSynchronized Bd)
      refine ⟨_, _, pre11 _ ?_, hrun, hended, _, _, rfl, ?_, ⟨_, rfl⟩, hW, hsame.mono (by decide) (by decide)⟩
      · show Steps p.tables e below (T10.setTop (mkF m 31 #[.val (.ref a1), .val (.ref a2), .val (.ref a2)] [(.int w_column_a2), (.int w_column_a1)])) _
        refine XS.icmpYes X10.here hx rfl (pc0 := 31) (pc' := 38) rfl (hb hby d4_31) rfl (feq hc12).2 (by decide) (by decide) ?_
        show Steps p.tables e below (T10.setTop (mkF m 38 _ [])) _
        refine XS.iconst X10.here hx rfl (hb hby d4_38) ?_
        show Steps p.tables e below (T10.setTop (mkF m 39 #[.val (.ref a1), .val (.ref a2), .val (.ref a2)] [(.int (0 : Int32))])) _
        exact retN X10 hx (t := .boolean) Bd.returns (by simp) (hb hby d4_39) hr
      · show Q4 Z a1 a2 w_line_a1 w_line_a2 w_column_a1 w_column_a2 h0 n0 _ T10.heap _
        rw [e10]
        exact ⟨congrArg (fun z => some (Value.int z)) (by rw [f4, if_pos hc8, if_neg hc12] : f4 w_line_a1 w_line_a2 w_column_a1 w_column_a2 = (0 : Int32)).symm, N0, rfl⟩
  · skip
    obtain ⟨fs, hr, hrun, hended, hW, hsame⟩ := X6.leave (v := some (.int (0 : Int32))) (fun h => by rw [Bd.returns] at h; cases h) (by first | exact BodyLoose.notSynchronized Bd | exact Body.notSynchronized Bd)
    refine ⟨_, _, pre7 _ ?_, hrun, hended, _, _, rfl, ?_, ⟨_, rfl⟩, hW, hsame.mono (by decide) (by decide)⟩
    · show Steps p.tables e below (T6.setTop (mkF m 20 #[.val (.ref a1), .val (.ref a2), .val (.ref a2)] [(.int w_line_a2), (.int w_line_a1)])) _
      refine XS.icmpYes X6.here hx rfl (pc0 := 20) (pc' := 38) rfl (hb hby d4_20) rfl (feq hc8).2 (by decide) (by decide) ?_
      show Steps p.tables e below (T6.setTop (mkF m 38 _ [])) _
      refine XS.iconst X6.here hx rfl (hb hby d4_38) ?_
      show Steps p.tables e below (T6.setTop (mkF m 39 #[.val (.ref a1), .val (.ref a2), .val (.ref a2)] [(.int (0 : Int32))])) _
      exact retN X6 hx (t := .boolean) Bd.returns (by simp) (hb hby d4_39) hr
    · show Q4 Z a1 a2 w_line_a1 w_line_a2 w_column_a1 w_column_a2 h0 n0 _ T6.heap _
      rw [e6]
      exact ⟨congrArg (fun z => some (Value.int z)) (by rw [f4, if_neg hc8] : f4 w_line_a1 w_line_a2 w_column_a1 w_column_a2 = (0 : Int32)).symm, N0, rfl⟩
theorem d104_0 : decode prog_47_method_13_code 0 = .ok (.aload_n 1, 1) := by decide +kernel
theorem d104_1 : decode prog_47_method_13_code 1 = .ok (.instanceof 17, 3) := by decide +kernel
theorem d104_4 : decode prog_47_method_13_code 4 = .ok (.ifCond .eq 34, 3) := by decide +kernel
theorem d104_38 : decode prog_47_method_13_code 38 = .ok (.iconst 0, 1) := by decide +kernel
theorem d104_39 : decode prog_47_method_13_code 39 = .ok (.ireturn, 1) := by decide +kernel
theorem pn_104 : plainName "com/example/neat_contract/neatcontract/document/Position" = true := by first | (simp [plainName, overriddenIn]; done) | decide +kernel
theorem ef_104 (m : MethodId) (x0 : Addr) : entryFrame m #[(.ref x0), .null] 3 = mkF m 0 #[.val (.ref x0), .val .null, .unset] [] := by first | (simp [entryFrame, mkF, argsToLocals, Value.category]; done) | rfl
def Q104 (Z : State) (a1 : Addr) (h0 : Heap) (n0 : Nat) (v : Option Value) (h : Heap) (L : List Loc) : Prop := v = some (.int (0 : Int32)) ∧ Fr n0 L ∧ h = h0
set_option maxRecDepth 65536 in
set_option maxHeartbeats 40000000 in
theorem rm104 (l : Launch) (Z : State) (a0 : Array Value) (hw : ∀ d ∈ tables_1, d.before a0 Z = true) (ws : List Jvm.Cond) (a1 : Addr) (h0 : Heap) (n0 : Nat) (Z0 : n0 ≤ h0.size) :
    MetFree l (⟨"com/example/neat_contract/neatcontract/document/Position", "equals", "(Ljava/lang/Object;)Z"⟩ : MethodName) (head1 (Jvm.Cond.code (⟨"com/example/neat_contract/neatcontract/document/Position", "equals", "(Ljava/lang/Object;)Z"⟩ : MethodName) prog_47_method_13_code 3 (some .boolean) :: ws) ({ frames := 0, cells := 0, slots := 0, locals := 0 } : Room)) (fun a U => a = #[(.ref a1), .null] ∧ Z.Warmed39 U.vm ∧ U.heap = h0) (fun _ _ _ _ _ => True) (fun _ U o U' => ∃ v L, o = .returned v ∧ Q104 Z a1 h0 n0 v U'.heap L ∧ FrameEnd U o U' L ({ frames := 0, cells := 0, slots := 0, locals := 0 } : Room).cells ({ frames := 0, cells := 0, slots := 0, locals := 0 } : Room).slots) := by
  refine MetFree.of_bodySF (plainFor_of_name pn_104) hisR ?_
  intro p e s m args below meth c s₁ Bd hml0 hP hK
  obtain ⟨rfl, hZ, hh⟩ := hP
  have hx := Bd.exec
  have hby := Bd.bytes
  have hml : c.maxLocals = 3 := hml0
  have hown : s.vm.findClass "com/example/neat_contract/neatcontract/document/Position" = some m.cls := findClass_of_methodNamed Bd.named
  have hnm := (name_of_methodNamed Bd.named Bd.method).1
  have X0 : Stand p l e ({ frames := 0, cells := 0, slots := 0, locals := 0 } : Room) s m #[(.ref a1), .null] below meth c s₁ [] 0 0 := Stand.of_body Bd
  have e0 : s₁.heap = h0 := by rw [← hh, Bd.state]; rfl
  have N0 := Fr.nil n0
  have pre0 : ∀ t, Steps p.tables e below (s₁.setTop (mkF m 0 #[.val (.ref a1), .val .null, .unset] [])) t → Steps p.tables e below (s₁.setTop (entryFrame m #[(.ref a1), .null] 3)) t := fun t k => castTop (ef_104 m a1) k
  obtain ⟨fs, hr, hrun, hended, hW, hsame⟩ := X0.leave (v := some (.int (0 : Int32))) (fun h => by rw [Bd.returns] at h; cases h) (by first | exact BodyLoose.notSynchronized Bd | exact Body.notSynchronized Bd)
  refine ⟨_, _, pre0 _ ?_, hrun, hended, _, _, rfl, ?_, ⟨_, rfl⟩, hW, hsame.mono (by decide) (by decide)⟩
  · show Steps p.tables e below (s₁.setTop (mkF m 0 #[.val (.ref a1), .val .null, .unset] [])) _
    refine XS.aloadN X0.here hx rfl (hb hby d104_0) rfl rfl ?_
    show Steps p.tables e below (s₁.setTop (mkF m 1 _ [.null])) _
    refine X0.instanceofNull hx (g := (mkF m 1 #[.val (.ref a1), .val .null, .unset] [.null])) rfl rfl (hb hby d104_1) _ ?_
    show Steps p.tables e below (s₁.setTop (mkF m 4 _ [(.int (0 : Int32))])) _
    refine XS.ifYes X0.here hx rfl (pc0 := 4) (pc' := 38) rfl (hb hby d104_4) rfl ((if0 _ _).trans (teq (by decide)).1) (by decide) (by decide) ?_
    show Steps p.tables e below (s₁.setTop (mkF m 38 _ [])) _
    refine XS.iconst X0.here hx rfl (hb hby d104_38) ?_
    show Steps p.tables e below (s₁.setTop (mkF m 39 #[.val (.ref a1), .val .null, .unset] [(.int (0 : Int32))])) _
    exact retN X0 hx (t := .boolean) Bd.returns (by simp) (hb hby d104_39) hr
  · show Q104 Z a1 h0 n0 _ s₁.heap _
    rw [e0]
    exact ⟨rfl, N0, rfl⟩
theorem d204_0 : decode prog_47_method_13_code 0 = .ok (.aload_n 1, 1) := by decide +kernel
theorem d204_1 : decode prog_47_method_13_code 1 = .ok (.instanceof 17, 3) := by decide +kernel
theorem d204_4 : decode prog_47_method_13_code 4 = .ok (.ifCond .eq 34, 3) := by decide +kernel
theorem d204_38 : decode prog_47_method_13_code 38 = .ok (.iconst 0, 1) := by decide +kernel
theorem d204_39 : decode prog_47_method_13_code 39 = .ok (.ireturn, 1) := by decide +kernel
theorem pn_204 : plainName "com/example/neat_contract/neatcontract/document/Position" = true := by first | (simp [plainName, overriddenIn]; done) | decide +kernel
theorem ef_204 (m : MethodId) (x0 : Addr) (x1 : Addr) : entryFrame m #[(.ref x0), (.ref x1)] 3 = mkF m 0 #[.val (.ref x0), .val (.ref x1), .unset] [] := by first | (simp [entryFrame, mkF, argsToLocals, Value.category]; done) | rfl
def Q204 (Z : State) (a1 : Addr) (a2 : Addr) (h0 : Heap) (n0 : Nat) (v : Option Value) (h : Heap) (L : List Loc) : Prop := v = some (.int (0 : Int32)) ∧ Fr n0 L ∧ h = h0
set_option maxRecDepth 65536 in
set_option maxHeartbeats 40000000 in
theorem rm204 (l : Launch) (Z : State) (a0 : Array Value) (hw : ∀ d ∈ tables_1, d.before a0 Z = true) (ws : List Jvm.Cond) (a1 : Addr) (a2 : Addr) (h0 : Heap) (n0 : Nat) (Z0 : n0 ≤ h0.size) (NI : ∃ c t, Z.vm.findClass "java/lang/Integer" = some c ∧ Z.vm.findClass "com/example/neat_contract/neatcontract/document/Position" = some t ∧ Z.vm.assignable c t = false) (E_a2 : Exa Z h0 a2 "java/lang/Integer") :
    MetFree l (⟨"com/example/neat_contract/neatcontract/document/Position", "equals", "(Ljava/lang/Object;)Z"⟩ : MethodName) (head1 (Jvm.Cond.code (⟨"com/example/neat_contract/neatcontract/document/Position", "equals", "(Ljava/lang/Object;)Z"⟩ : MethodName) prog_47_method_13_code 3 (some .boolean) :: ws) ({ frames := 0, cells := 0, slots := 0, locals := 0 } : Room)) (fun a U => a = #[(.ref a1), (.ref a2)] ∧ Z.Warmed39 U.vm ∧ U.heap = h0) (fun _ _ _ _ _ => True) (fun _ U o U' => ∃ v L, o = .returned v ∧ Q204 Z a1 a2 h0 n0 v U'.heap L ∧ FrameEnd U o U' L ({ frames := 0, cells := 0, slots := 0, locals := 0 } : Room).cells ({ frames := 0, cells := 0, slots := 0, locals := 0 } : Room).slots) := by
  refine MetFree.of_bodySF (plainFor_of_name pn_204) hisR ?_
  intro p e s m args below meth c s₁ Bd hml0 hP hK
  obtain ⟨rfl, hZ, hh⟩ := hP
  have hx := Bd.exec
  have hby := Bd.bytes
  have hml : c.maxLocals = 3 := hml0
  have hown : s.vm.findClass "com/example/neat_contract/neatcontract/document/Position" = some m.cls := findClass_of_methodNamed Bd.named
  have hnm := (name_of_methodNamed Bd.named Bd.method).1
  have X0 : Stand p l e ({ frames := 0, cells := 0, slots := 0, locals := 0 } : Room) s m #[(.ref a1), (.ref a2)] below meth c s₁ [] 0 0 := Stand.of_body Bd
  have e0 : s₁.heap = h0 := by rw [← hh, Bd.state]; rfl
  have N0 := Fr.nil n0
  have pre0 : ∀ t, Steps p.tables e below (s₁.setTop (mkF m 0 #[.val (.ref a1), .val (.ref a2), .unset] [])) t → Steps p.tables e below (s₁.setTop (entryFrame m #[(.ref a1), (.ref a2)] 3)) t := fun t k => castTop (ef_204 m a1 a2) k
  obtain ⟨T3, X3, e3, st3⟩ := instNo X0 hx hZ hown (hw _ (List.mem_of_getElem? (i := 23) rfl)) e0 E_a2 NI (g := (mkF m 1 #[.val (.ref a1), .val (.ref a2), .unset] [(.ref a2)])) rfl rfl (hb hby d204_1)
  obtain ⟨fs, hr, hrun, hended, hW, hsame⟩ := X3.leave (v := some (.int (0 : Int32))) (fun h => by rw [Bd.returns] at h; cases h) (by first | exact BodyLoose.notSynchronized Bd | exact Body.notSynchronized Bd)
  refine ⟨_, _, pre0 _ ?_, hrun, hended, _, _, rfl, ?_, ⟨_, rfl⟩, hW, hsame.mono (by decide) (by decide)⟩
  · show Steps p.tables e below (s₁.setTop (mkF m 0 #[.val (.ref a1), .val (.ref a2), .unset] [])) _
    refine XS.aloadN X0.here hx rfl (hb hby d204_0) rfl rfl ?_
    show Steps p.tables e below (s₁.setTop (mkF m 1 _ [(.ref a2)])) _
    refine st3 _ ?_
    show Steps p.tables e below (T3.setTop (mkF m 4 _ [(.int (0 : Int32))])) _
    refine XS.ifYes X3.here hx rfl (pc0 := 4) (pc' := 38) rfl (hb hby d204_4) rfl ((if0 _ _).trans (teq (by decide)).1) (by decide) (by decide) ?_
    show Steps p.tables e below (T3.setTop (mkF m 38 _ [])) _
    refine XS.iconst X3.here hx rfl (hb hby d204_38) ?_
    show Steps p.tables e below (T3.setTop (mkF m 39 #[.val (.ref a1), .val (.ref a2), .unset] [(.int (0 : Int32))])) _
    exact retN X3 hx (t := .boolean) Bd.returns (by simp) (hb hby d204_39) hr
  · show Q204 Z a1 a2 h0 n0 _ T3.heap _
    rw [e3]
    exact ⟨rfl, N0, rfl⟩
theorem d7_0 : decode jdk_18_method_1_code 0 = .ok (.aload_n 0, 1) := by decide +kernel
theorem d7_1 : decode jdk_18_method_1_code 1 = .ok (.invokespecial 1, 3) := by decide +kernel
theorem d7_4 : decode jdk_18_method_1_code 4 = .ok (.return_, 1) := by decide +kernel
theorem pn_7 : plainName "java/lang/Number" = true := by first | (simp [plainName, overriddenIn]; done) | decide +kernel
theorem ef_7 (m : MethodId) (x0 : Addr) : entryFrame m #[(.ref x0)] 1 = mkF m 0 #[.val (.ref x0)] [] := by first | (simp [entryFrame, mkF, argsToLocals, Value.category]; done) | rfl
def Q7 (Z : State) (a1 : Addr) (h0 : Heap) (n0 : Nat) (v : Option Value) (h : Heap) (L : List Loc) : Prop := v = none ∧ Fr n0 L ∧ h = h0
set_option maxRecDepth 65536 in
set_option maxHeartbeats 40000000 in
theorem rm7 (l : Launch) (Z : State) (a0 : Array Value) (hw : ∀ d ∈ tables_1, d.before a0 Z = true) (ws : List Jvm.Cond) (a1 : Addr) (h0 : Heap) (n0 : Nat) (Z0 : n0 ≤ h0.size) :
    MetFree l (⟨"java/lang/Number", "<init>", "()V"⟩ : MethodName) (head1 (Jvm.Cond.code (⟨"java/lang/Number", "<init>", "()V"⟩ : MethodName) jdk_18_method_1_code 1 none :: ws) ({ frames := 1, cells := 0, slots := 0, locals := 12 } : Room)) (fun a U => a = #[(.ref a1)] ∧ Z.Warmed39 U.vm ∧ U.heap = h0) (fun _ _ _ _ _ => True) (fun _ U o U' => ∃ v L, o = .returned v ∧ Q7 Z a1 h0 n0 v U'.heap L ∧ FrameEnd U o U' L ({ frames := 1, cells := 0, slots := 0, locals := 12 } : Room).cells ({ frames := 1, cells := 0, slots := 0, locals := 12 } : Room).slots) := by
  refine MetFree.of_bodySF (plainFor_of_name pn_7) hisR ?_
  intro p e s m args below meth c s₁ Bd hml0 hP hK
  obtain ⟨rfl, hZ, hh⟩ := hP
  have hx := Bd.exec
  have hby := Bd.bytes
  have hml : c.maxLocals = 1 := hml0
  have hown : s.vm.findClass "java/lang/Number" = some m.cls := findClass_of_methodNamed Bd.named
  have hnm := (name_of_methodNamed Bd.named Bd.method).1
  have X0 : Stand p l e ({ frames := 1, cells := 0, slots := 0, locals := 12 } : Room) s m #[(.ref a1)] below meth c s₁ [] 0 0 := Stand.of_body Bd
  have e0 : s₁.heap = h0 := by rw [← hh, Bd.state]; rfl
  have N0 := Fr.nil n0
  have pre0 : ∀ t, Steps p.tables e below (s₁.setTop (mkF m 0 #[.val (.ref a1)] [])) t → Steps p.tables e below (s₁.setTop (entryFrame m #[(.ref a1)] 1)) t := fun t k => castTop (ef_7 m a1) k
  obtain ⟨T2, X2, e2, st2⟩ := initO X0 hx hZ hown (hw _ (List.mem_of_getElem? (i := 47) rfl)) (hw _ (List.mem_of_getElem? (i := 12) rfl)) (hw _ (List.mem_of_getElem? (i := 13) rfl)) e0 (g := (mkF m 1 #[.val (.ref a1)] [(.ref a1)])) rfl (by rw [hml]; rfl) rfl (hb hby d7_1) (by decide) (W := 0) (by show 2 * 0 + _ ≤ _; exact Nat.le_of_eq rfl) (by decide)
  obtain ⟨fs, hr, hrun, hended, hW, hsame⟩ := X2.leave (v := none) (fun _ => rfl) (by first | exact BodyLoose.notSynchronized Bd | exact Body.notSynchronized Bd)
  refine ⟨_, _, pre0 _ ?_, hrun, hended, _, _, rfl, ?_, ⟨_, rfl⟩, hW, hsame.mono (by decide) (by decide)⟩
  · show Steps p.tables e below (s₁.setTop (mkF m 0 #[.val (.ref a1)] [])) _
    refine XS.aloadN X0.here hx rfl (hb hby d7_0) rfl rfl ?_
    show Steps p.tables e below (s₁.setTop (mkF m 1 _ [(.ref a1)])) _
    refine st2 _ ?_
    show Steps p.tables e below (T2.setTop (mkF m 4 #[.val (.ref a1)] [])) _
    exact X2.returnOut hx Bd.returns (hb hby d7_4) hr
  · show Q7 Z a1 h0 n0 _ T2.heap _
    rw [e2]
    exact ⟨rfl, N0, rfl⟩
theorem d6_0 : decode jdk_33_method_23_code 0 = .ok (.aload_n 0, 1) := by decide +kernel
theorem d6_1 : decode jdk_33_method_23_code 1 = .ok (.invokespecial 202, 3) := by decide +kernel
theorem d6_4 : decode jdk_33_method_23_code 4 = .ok (.aload_n 0, 1) := by decide +kernel
theorem d6_5 : decode jdk_33_method_23_code 5 = .ok (.iload_n 1, 1) := by decide +kernel
theorem d6_6 : decode jdk_33_method_23_code 6 = .ok (.putfield 205, 3) := by decide +kernel
theorem d6_9 : decode jdk_33_method_23_code 9 = .ok (.return_, 1) := by decide +kernel
theorem pn_6 : plainName "java/lang/Integer" = true := by first | (simp [plainName, overriddenIn]; done) | decide +kernel
theorem pd_6_2 : parseMethodDescriptor "()V" = some ⟨[], none⟩ := by decide +kernel
theorem ef_6 (m : MethodId) (x0 : Addr) (x1 : Int32) : entryFrame m #[(.ref x0), (.int x1)] 2 = mkF m 0 #[.val (.ref x0), .val (.int x1)] [] := by first | (simp [entryFrame, mkF, argsToLocals, Value.category]; done) | rfl
def Q6 (Z : State) (a1 : Addr) (p2 : Int32) (u_value_a1 : Value) (h0 : Heap) (n0 : Nat) (v : Option Value) (h : Heap) (L : List Loc) : Prop := v = none ∧ Fr n0 L ∧ Keep h0 h [a1] ∧ Exa Z h a1 "java/lang/Integer" ∧ Fld Z h a1 "java/lang/Integer" "value" "I" (.int p2)
set_option maxRecDepth 65536 in
set_option maxHeartbeats 40000000 in
theorem rm6 (l : Launch) (Z : State) (a0 : Array Value) (hw : ∀ d ∈ tables_1, d.before a0 Z = true) (ws : List Jvm.Cond) (a1 : Addr) (p2 : Int32) (u_value_a1 : Value) (h0 : Heap) (n0 : Nat) (Z0 : n0 ≤ h0.size) (E_a1 : Exa Z h0 a1 "java/lang/Integer") (F_value_a1 : Fld Z h0 a1 "java/lang/Integer" "value" "I" u_value_a1) (g_a1 : n0 ≤ a1) :
    MetFree l (⟨"java/lang/Integer", "<init>", "(I)V"⟩ : MethodName) (head1 (Jvm.Cond.code (⟨"java/lang/Integer", "<init>", "(I)V"⟩ : MethodName) jdk_33_method_23_code 2 none :: ws) ({ frames := 2, cells := 0, slots := 0, locals := 24 } : Room)) (fun a U => a = #[(.ref a1), (.int p2)] ∧ Z.Warmed39 U.vm ∧ U.heap = h0) (fun _ _ _ _ _ => True) (fun _ U o U' => ∃ v L, o = .returned v ∧ Q6 Z a1 p2 u_value_a1 h0 n0 v U'.heap L ∧ FrameEnd U o U' L ({ frames := 2, cells := 0, slots := 0, locals := 24 } : Room).cells ({ frames := 2, cells := 0, slots := 0, locals := 24 } : Room).slots) := by
  refine MetFree.of_bodySF (plainFor_of_name pn_6) hisR ?_
  intro p e s m args below meth c s₁ Bd hml0 hP hK
  obtain ⟨rfl, hZ, hh⟩ := hP
  have hx := Bd.exec
  have hby := Bd.bytes
  have hml : c.maxLocals = 2 := hml0
  have hown : s.vm.findClass "java/lang/Integer" = some m.cls := findClass_of_methodNamed Bd.named
  have hnm := (name_of_methodNamed Bd.named Bd.method).1
  have X0 : Stand p l e ({ frames := 2, cells := 0, slots := 0, locals := 24 } : Room) s m #[(.ref a1), (.int p2)] below meth c s₁ [] 0 0 := Stand.of_body Bd
  have e0 : s₁.heap = h0 := by rw [← hh, Bd.state]; rfl
  have N0 := Fr.nil n0
  have pre0 : ∀ t, Steps p.tables e below (s₁.setTop (mkF m 0 #[.val (.ref a1), .val (.int p2)] [])) t → Steps p.tables e below (s₁.setTop (entryFrame m #[(.ref a1), (.int p2)] 2)) t := fun t k => castTop (ef_6 m a1 p2) k
  obtain ⟨_, _, ⟨T3, L3, k3, n3⟩, -, X3, ⟨Lc3, hQ3, l3, y3, z3⟩, st3⟩ := X0.specialBack hx (y := (⟨"java/lang/Number", "<init>", "()V"⟩ : MethodName)) rfl hown (mvT hZ (hw _ (List.mem_of_getElem? (i := 41) rfl))) (mvT hZ (hw _ (List.mem_of_getElem? (i := 42) rfl))) (mvT hZ (hw _ (List.mem_of_getElem? (i := 46) rfl))) (by decide) (backOf (W := 0) (rm7 l Z a0 hw [] a1 h0 n0 Z0 ) hZ (hw _ (List.mem_of_getElem? (i := 46) rfl)) (hw _ (List.mem_of_getElem? (i := 45) rfl)) (by decide) (by decide)) (g := (mkF m 1 #[.val (.ref a1), .val (.int p2)] [(.ref a1)])) rfl (by rw [hml]; rfl) (Steps.refl _) (a := a1) (argsL := []) (rest := []) (lenOf pd_6_2 rfl) rfl (by show 2 * 0 + _ ≤ _; exact Nat.le_of_eq rfl) (hb hby d6_1) (fun _ _ => ⟨rfl, e0, (by decide : 0 + 0 ≤ _), (by decide : 0 + 0 ≤ _)⟩)
  dsimp only [Pt.U, Pt.locs, Pt.cells, Pt.slots] at X3 l3 y3 z3 st3 hQ3
  subst l3 y3 z3
  obtain ⟨rfl, N3q, e3⟩ := hQ3
  have N3 := Fr.app N0 N3q
  obtain ⟨T4, h4, X4, e4, W4, st4⟩ := putF X3 hx hZ hown (host := "") (Or.inl (hw _ (List.mem_of_getElem? (i := 48) rfl))) Via.refl e3 F_value_a1 E_a1 (Or.inr ⟨(hw _ (List.mem_of_getElem? (i := 49) rfl)), rfl, hnm⟩) (hw _ (List.mem_of_getElem? (i := 36) rfl)) (ty := .int) (by decide) rfl rfl (g := (mkF m 6 #[.val (.ref a1), .val (.int p2)] [(.int p2), (.ref a1)])) rfl rfl (hb hby d6_6)
  have Fw4 := F_value_a1.same W4
  have N4 := Fr.snoc X4 N3 g_a1
  have K4 : Keep h0 h4 [a1] := (Keep.refl h0 [a1]).wr W4 (Or.inl (List.mem_of_getElem? (i := 0) rfl))
  obtain ⟨fs, hr, hrun, hended, hW, hsame⟩ := X4.leave (v := none) (fun _ => rfl) (by first | exact BodyLoose.notSynchronized Bd | exact Body.notSynchronized Bd)
  refine ⟨_, _, pre0 _ ?_, hrun, hended, _, _, rfl, ?_, ⟨_, rfl⟩, hW, hsame.mono (by decide) (by decide)⟩
  · show Steps p.tables e below (s₁.setTop (mkF m 0 #[.val (.ref a1), .val (.int p2)] [])) _
    refine XS.aloadN X0.here hx rfl (hb hby d6_0) rfl rfl ?_
    show Steps p.tables e below (s₁.setTop (mkF m 1 _ [(.ref a1)])) _
    refine st3.trans ?_
    show Steps p.tables e below (T3.setTop (mkF m 4 _ [])) _
    refine XS.aloadN X3.here hx rfl (hb hby d6_4) rfl rfl ?_
    show Steps p.tables e below (T3.setTop (mkF m 5 _ [(.ref a1)])) _
    refine XS.iloadN X3.here hx rfl (hb hby d6_5) rfl ?_
    show Steps p.tables e below (T3.setTop (mkF m 6 _ [(.int p2), (.ref a1)])) _
    refine st4 _ ?_
    show Steps p.tables e below (T4.setTop (mkF m 9 #[.val (.ref a1), .val (.int p2)] [])) _
    exact X4.returnOut hx Bd.returns (hb hby d6_9) hr
  · show Q6 Z a1 p2 u_value_a1 h0 n0 _ T4.heap _
    rw [e4]
    have Ex5 := (E_a1.wr W4)
    have Zs6 : n0 ≤ h4.size := (Nat.le_trans Z0 (Keep.of_wr W4).1)
    exact ⟨rfl, N4, K4, Ex5, Fw4⟩
theorem d5_0 : decode jdk_33_method_22_code 0 = .ok (.iload_n 0, 1) := by decide +kernel
theorem d5_1 : decode jdk_33_method_22_code 1 = .ok (.bipush (-128), 2) := by decide +kernel
theorem d5_3 : decode jdk_33_method_22_code 3 = .ok (.if_icmp .lt 20, 3) := by decide +kernel
theorem d5_6 : decode jdk_33_method_22_code 6 = .ok (.iload_n 0, 1) := by decide +kernel
theorem d5_7 : decode jdk_33_method_22_code 7 = .ok (.getstatic 191, 3) := by decide +kernel
theorem d5_10 : decode jdk_33_method_22_code 10 = .ok (.if_icmp .gt 13, 3) := by decide +kernel
theorem d5_13 : decode jdk_33_method_22_code 13 = .ok (.getstatic 195, 3) := by decide +kernel
theorem d5_16 : decode jdk_33_method_22_code 16 = .ok (.iload_n 0, 1) := by decide +kernel
theorem d5_17 : decode jdk_33_method_22_code 17 = .ok (.sipush 128, 3) := by decide +kernel
theorem d5_20 : decode jdk_33_method_22_code 20 = .ok (.iadd, 1) := by decide +kernel
theorem d5_21 : decode jdk_33_method_22_code 21 = .ok (.aaload, 1) := by decide +kernel
theorem d5_22 : decode jdk_33_method_22_code 22 = .ok (.areturn, 1) := by decide +kernel
theorem d5_23 : decode jdk_33_method_22_code 23 = .ok (.new 1, 3) := by decide +kernel
theorem d5_26 : decode jdk_33_method_22_code 26 = .ok (.dup, 1) := by decide +kernel
theorem d5_27 : decode jdk_33_method_22_code 27 = .ok (.iload_n 0, 1) := by decide +kernel
theorem d5_28 : decode jdk_33_method_22_code 28 = .ok (.invokespecial 199, 3) := by decide +kernel
theorem d5_31 : decode jdk_33_method_22_code 31 = .ok (.areturn, 1) := by decide +kernel
theorem pn_5 : plainName "java/lang/Integer" = true := by first | (simp [plainName, overriddenIn]; done) | decide +kernel
theorem pd_5_5 : parseMethodDescriptor "(I)V" = some ⟨[.int], none⟩ := by decide +kernel
theorem ef_5 (m : MethodId) (x0 : Int32) : entryFrame m #[(.int x0)] 1 = mkF m 0 #[.val (.int x0)] [] := by first | (simp [entryFrame, mkF, argsToLocals, Value.category]; done) | rfl
def Q5 (Z : State) (p1 : Int32) (w_cache : Addr) (cl_w : Cell) (h0 : Heap) (n0 : Nat) (v : Option Value) (h : Heap) (L : List Loc) : Prop := ∃ r : Addr, v = some (.ref r) ∧ Fr n0 L ∧ Keep h0 h [] ∧ Exa Z h r "java/lang/Integer"
set_option maxRecDepth 65536 in
set_option maxHeartbeats 40000000 in
theorem rm5 (l : Launch) (Z : State) (a0 : Array Value) (hw : ∀ d ∈ tables_1, d.before a0 Z = true) (ws : List Jvm.Cond) (p1 : Int32) (w_cache : Addr) (cl_w : Cell) (h0 : Heap) (n0 : Nat) (Z0 : n0 ≤ h0.size) (AR : Arr Z Z.heap w_cache cl_w (.object "java/lang/Integer")) (hsz : cl_w.slots.size = 256) (hel : ∀ j : Nat, j < 256 → ∃ b : Addr, cl_w.slots[j]? = some (.ref b) ∧ Exa Z Z.heap b "java/lang/Integer") (O0 : Old Z n0 h0) (S_high : Sta Z h0 "java/lang/Integer$IntegerCache" "high" "I" (.int (127 : Int32))) (S_cache : Sta Z h0 "java/lang/Integer$IntegerCache" "cache" "[Ljava/lang/Integer;" (.ref w_cache)) :
    MetFree l (⟨"java/lang/Integer", "valueOf", "(I)Ljava/lang/Integer;"⟩ : MethodName) (head1 (Jvm.Cond.code (⟨"java/lang/Integer", "valueOf", "(I)Ljava/lang/Integer;"⟩ : MethodName) jdk_33_method_22_code 1 (some (.object "java/lang/Integer")) :: ws) ({ frames := 3, cells := 1, slots := 1, locals := 38 } : Room)) (fun a U => a = #[(.int p1)] ∧ Z.Warmed39 U.vm ∧ U.heap = h0) (fun _ _ _ _ _ => True) (fun _ U o U' => ∃ v L, o = .returned v ∧ Q5 Z p1 w_cache cl_w h0 n0 v U'.heap L ∧ FrameEnd U o U' L ({ frames := 3, cells := 1, slots := 1, locals := 38 } : Room).cells ({ frames := 3, cells := 1, slots := 1, locals := 38 } : Room).slots) := by
  refine MetFree.of_bodySF (plainFor_of_name pn_5) hisR ?_
  intro p e s m args below meth c s₁ Bd hml0 hP hK
  obtain ⟨rfl, hZ, hh⟩ := hP
  have hx := Bd.exec
  have hby := Bd.bytes
  have hml : c.maxLocals = 1 := hml0
  have hown : s.vm.findClass "java/lang/Integer" = some m.cls := findClass_of_methodNamed Bd.named
  have hnm := (name_of_methodNamed Bd.named Bd.method).1
  have X0 : Stand p l e ({ frames := 3, cells := 1, slots := 1, locals := 38 } : Room) s m #[(.int p1)] below meth c s₁ [] 0 0 := Stand.of_body Bd
  have e0 : s₁.heap = h0 := by rw [← hh, Bd.state]; rfl
  have N0 := Fr.nil n0
  have pre0 : ∀ t, Steps p.tables e below (s₁.setTop (mkF m 0 #[.val (.int p1)] [])) t → Steps p.tables e below (s₁.setTop (entryFrame m #[(.int p1)] 1)) t := fun t k => castTop (ef_5 m p1) k
  have pre2 : ∀ t, Steps p.tables e below (s₁.setTop (mkF m 3 #[.val (.int p1)] [(.int (-128 : Int32)), (.int p1)])) t → Steps p.tables e below (s₁.setTop (entryFrame m #[(.int p1)] 1)) t := fun t kt => by
    refine pre0 _ ?_
    show Steps p.tables e below (s₁.setTop (mkF m 0 #[.val (.int p1)] [])) _
    refine XS.iloadN X0.here hx rfl (hb hby d5_0) rfl ?_
    show Steps p.tables e below (s₁.setTop (mkF m 1 _ [(.int p1)])) _
    refine XS.bipush X0.here hx rfl (hb hby d5_1) ?_
    exact kt
  by_cases hc3 : p1 < (-128 : Int32)
  · skip
    obtain ⟨T4, h4, X4, e4, E4, A4, D4, -, st4⟩ := newO X0 hx hZ hown (hw _ (List.mem_of_getElem? (i := 35) rfl)) (hw _ (List.mem_of_getElem? (i := 36) rfl)) (hw _ (List.mem_of_getElem? (i := 27) rfl)) e0 (g := (mkF m 23 #[.val (.int p1)] [])) rfl (hb hby d5_23) (by decide) (by decide)
    obtain ⟨b4, g4⟩ : ∃ z, z = h0.size := ⟨_, rfl⟩
    rw [← g4] at A4 D4 st4
    have g_b4 : n0 ≤ b4 := Nat.le_trans Z0 (Nat.le_of_eq g4.symm)
    have sz_b4 : h0.size ≤ b4 := Nat.le_trans (Keep.refl h0 []).1 (Nat.le_of_eq g4.symm)
    have K4 : Keep h0 h4 [] := (Keep.refl h0 []).ext E4
    have F_value_b4 : Fld Z h4 b4 "java/lang/Integer" "value" "I" (.int (0 : Int32)) := D4 (Or.inr (hw _ (List.mem_of_getElem? (i := 49) rfl))) (ty := .int) (by decide)
    have Od6 := (O0.ext E4)
    have Zs7 : n0 ≤ h4.size := (Nat.le_trans Z0 E4.1)
    obtain ⟨_, _, ⟨T5, L5, k5, n5⟩, -, X5, ⟨Lc5, hQ5, l5, y5, z5⟩, st5⟩ := X4.specialBack hx (y := (⟨"java/lang/Integer", "<init>", "(I)V"⟩ : MethodName)) rfl hown (mvT hZ (hw _ (List.mem_of_getElem? (i := 37) rfl))) (mvT hZ (hw _ (List.mem_of_getElem? (i := 38) rfl))) (mvT hZ (hw _ (List.mem_of_getElem? (i := 40) rfl))) (by decide) (backOf (W := 1) (rm6 l Z a0 hw [] b4 p1 (.int (0 : Int32)) h4 n0 Zs7 A4 F_value_b4 g_b4) hZ (hw _ (List.mem_of_getElem? (i := 40) rfl)) (hw _ (List.mem_of_getElem? (i := 27) rfl)) (by decide) (by decide)) (g := (mkF m 28 #[.val (.int p1)] [(.int p1), (.ref b4), (.ref b4)])) rfl (by rw [hml]; rfl) (Steps.refl _) (a := b4) (argsL := [(.int p1)]) (rest := [(.ref b4)]) (lenOf pd_5_5 rfl) rfl (by show 2 * 0 + _ ≤ _; exact Nat.le_of_eq rfl) (hb hby d5_28) (fun _ _ => ⟨rfl, e4, (by decide : 1 + 0 ≤ _), (by decide : 1 + 0 ≤ _)⟩)
    dsimp only [Pt.U, Pt.locs, Pt.cells, Pt.slots] at X5 l5 y5 z5 st5 hQ5
    subst l5 y5 z5
    obtain ⟨rfl, N5q, Kp5, qp5_0, qp5_1⟩ := hQ5
    have N5 := Fr.app N0 N5q
    obtain ⟨fs, hr, hrun, hended, hW, hsame⟩ := X5.leave (v := some (.ref b4)) (fun h => by rw [Bd.returns] at h; cases h) (by first | exact BodyLoose.notSynchronized Bd | exact Body.notSynchronized Bd)
    refine ⟨_, _, pre2 _ ?_, hrun, hended, _, _, rfl, ?_, ⟨_, rfl⟩, hW, hsame.mono (by decide) (by decide)⟩
    · show Steps p.tables e below (s₁.setTop (mkF m 3 #[.val (.int p1)] [(.int (-128 : Int32)), (.int p1)])) _
      refine XS.icmpYes X0.here hx rfl (pc0 := 3) (pc' := 23) rfl (hb hby d5_3) rfl (tlt hc3).1 (by decide) (by decide) ?_
      show Steps p.tables e below (s₁.setTop (mkF m 23 _ [])) _
      refine st4 _ ?_
      show Steps p.tables e below (T4.setTop (mkF m 26 _ [(.ref b4)])) _
      refine XS.dup X4.here hx rfl (hb hby d5_26) rfl rfl ?_
      show Steps p.tables e below (T4.setTop (mkF m 27 _ [(.ref b4), (.ref b4)])) _
      refine XS.iloadN X4.here hx rfl (hb hby d5_27) rfl ?_
      show Steps p.tables e below (T4.setTop (mkF m 28 _ [(.int p1), (.ref b4), (.ref b4)])) _
      refine st5.trans ?_
      show Steps p.tables e below (T5.setTop (mkF m 31 #[.val (.int p1)] [(.ref b4)])) _
      jvm_step X5.here [X5.here.top, hx, (hb hby d5_31), X5.method', Bd.returns, Value.isRef, FieldType.isReference]
      first | (intro acts; rw [hr _ acts rfl rfl rfl]) | rw [hr _ _ rfl rfl rfl]
      exact Steps.refl _
    · show Q5 Z p1 w_cache cl_w h0 n0 _ T5.heap _
      have Od8 := (Od6.keep Kp5 (allS g_b4 all0))
      have Zs9 : n0 ≤ T5.heap.size := (Nat.le_trans Zs7 Kp5.1)
      exact ⟨b4, rfl, N5, (K4.trans Kp5 (fun x hx => Or.inr (by cases List.mem_singleton.mp hx; exact sz_b4))), qp5_0⟩
  · skip
    obtain ⟨T10, X10, e10, st10⟩ := getS2 X0 hx hZ hown (host := "") (Or.inl (hw _ (List.mem_of_getElem? (i := 29) rfl))) Via.refl e0 S_high (g := (mkF m 7 #[.val (.int p1)] [(.int p1)])) rfl (hb hby d5_7)
    have pre11 : ∀ t, Steps p.tables e below (T10.setTop (mkF m 10 #[.val (.int p1)] [(.int (127 : Int32)), (.int p1)])) t → Steps p.tables e below (s₁.setTop (entryFrame m #[(.int p1)] 1)) t := fun t kt => by
      refine pre2 _ ?_
      show Steps p.tables e below (s₁.setTop (mkF m 3 #[.val (.int p1)] [(.int (-128 : Int32)), (.int p1)])) _
      refine XS.icmpNo X0.here hx rfl (hb hby d5_3) rfl (flt hc3).1 ?_
      show Steps p.tables e below (s₁.setTop (mkF m 6 _ [])) _
      refine XS.iloadN X0.here hx rfl (hb hby d5_6) rfl ?_
      show Steps p.tables e below (s₁.setTop (mkF m 7 _ [(.int p1)])) _
      refine st10 _ ?_
      exact kt
    by_cases hc12 : (127 : Int32) < p1
    · skip
      obtain ⟨T13, h13, X13, e13, E13, A13, D13, -, st13⟩ := newO X10 hx hZ hown (hw _ (List.mem_of_getElem? (i := 35) rfl)) (hw _ (List.mem_of_getElem? (i := 36) rfl)) (hw _ (List.mem_of_getElem? (i := 27) rfl)) e10 (g := (mkF m 23 #[.val (.int p1)] [])) rfl (hb hby d5_23) (by decide) (by decide)
      obtain ⟨b13, g13⟩ : ∃ z, z = h0.size := ⟨_, rfl⟩
      rw [← g13] at A13 D13 st13
      have g_b13 : n0 ≤ b13 := Nat.le_trans Z0 (Nat.le_of_eq g13.symm)
      have sz_b13 : h0.size ≤ b13 := Nat.le_trans (Keep.refl h0 []).1 (Nat.le_of_eq g13.symm)
      have K13 : Keep h0 h13 [] := (Keep.refl h0 []).ext E13
      have F_value_b13 : Fld Z h13 b13 "java/lang/Integer" "value" "I" (.int (0 : Int32)) := D13 (Or.inr (hw _ (List.mem_of_getElem? (i := 49) rfl))) (ty := .int) (by decide)
      have Sa15 := (S_high.ext E13)
      have Od16 := (O0.ext E13)
      have Zs17 : n0 ≤ h13.size := (Nat.le_trans Z0 E13.1)
      obtain ⟨_, _, ⟨T14, L14, k14, n14⟩, -, X14, ⟨Lc14, hQ14, l14, y14, z14⟩, st14⟩ := X13.specialBack hx (y := (⟨"java/lang/Integer", "<init>", "(I)V"⟩ : MethodName)) rfl hown (mvT hZ (hw _ (List.mem_of_getElem? (i := 37) rfl))) (mvT hZ (hw _ (List.mem_of_getElem? (i := 38) rfl))) (mvT hZ (hw _ (List.mem_of_getElem? (i := 40) rfl))) (by decide) (backOf (W := 1) (rm6 l Z a0 hw [] b13 p1 (.int (0 : Int32)) h13 n0 Zs17 A13 F_value_b13 g_b13) hZ (hw _ (List.mem_of_getElem? (i := 40) rfl)) (hw _ (List.mem_of_getElem? (i := 27) rfl)) (by decide) (by decide)) (g := (mkF m 28 #[.val (.int p1)] [(.int p1), (.ref b13), (.ref b13)])) rfl (by rw [hml]; rfl) (Steps.refl _) (a := b13) (argsL := [(.int p1)]) (rest := [(.ref b13)]) (lenOf pd_5_5 rfl) rfl (by show 2 * 0 + _ ≤ _; exact Nat.le_of_eq rfl) (hb hby d5_28) (fun _ _ => ⟨rfl, e13, (by decide : 1 + 0 ≤ _), (by decide : 1 + 0 ≤ _)⟩)
      dsimp only [Pt.U, Pt.locs, Pt.cells, Pt.slots] at X14 l14 y14 z14 st14 hQ14
      subst l14 y14 z14
      obtain ⟨rfl, N14q, Kp14, qp14_0, qp14_1⟩ := hQ14
      have N14 := Fr.app N0 N14q
      obtain ⟨fs, hr, hrun, hended, hW, hsame⟩ := X14.leave (v := some (.ref b13)) (fun h => by rw [Bd.returns] at h; cases h) (by first | exact BodyLoose.notSynchronized Bd | exact Body.notSynchronized Bd)
      refine ⟨_, _, pre11 _ ?_, hrun, hended, _, _, rfl, ?_, ⟨_, rfl⟩, hW, hsame.mono (by decide) (by decide)⟩
      · show Steps p.tables e below (T10.setTop (mkF m 10 #[.val (.int p1)] [(.int (127 : Int32)), (.int p1)])) _
        refine XS.icmpYes X10.here hx rfl (pc0 := 10) (pc' := 23) rfl (hb hby d5_10) rfl (tlt hc12).2.2.1 (by decide) (by decide) ?_
        show Steps p.tables e below (T10.setTop (mkF m 23 _ [])) _
        refine st13 _ ?_
        show Steps p.tables e below (T13.setTop (mkF m 26 _ [(.ref b13)])) _
        refine XS.dup X13.here hx rfl (hb hby d5_26) rfl rfl ?_
        show Steps p.tables e below (T13.setTop (mkF m 27 _ [(.ref b13), (.ref b13)])) _
        refine XS.iloadN X13.here hx rfl (hb hby d5_27) rfl ?_
        show Steps p.tables e below (T13.setTop (mkF m 28 _ [(.int p1), (.ref b13), (.ref b13)])) _
        refine st14.trans ?_
        show Steps p.tables e below (T14.setTop (mkF m 31 #[.val (.int p1)] [(.ref b13)])) _
        jvm_step X14.here [X14.here.top, hx, (hb hby d5_31), X14.method', Bd.returns, Value.isRef, FieldType.isReference]
        first | (intro acts; rw [hr _ acts rfl rfl rfl]) | rw [hr _ _ rfl rfl rfl]
        exact Steps.refl _
      · show Q5 Z p1 w_cache cl_w h0 n0 _ T14.heap _
        have Od18 := (Od16.keep Kp14 (allS g_b13 all0))
        have Zs19 : n0 ≤ T14.heap.size := (Nat.le_trans Zs17 Kp14.1)
        exact ⟨b13, rfl, N14, (K13.trans Kp14 (fun x hx => Or.inr (by cases List.mem_singleton.mp hx; exact sz_b13))), qp14_0⟩
    · skip
      obtain ⟨T20, X20, e20, st20⟩ := getS2 X10 hx hZ hown (host := "") (Or.inl (hw _ (List.mem_of_getElem? (i := 31) rfl))) Via.refl e10 S_cache (g := (mkF m 13 #[.val (.int p1)] [])) rfl (hb hby d5_13)
      have hin21 : ¬ ((p1 + (128 : Int32)) < 0 ∨ cl_w.slots.size ≤ ((p1 + (128 : Int32))).toNatClampNeg) := own_boxin hsz (by assumption) (by assumption)
      obtain ⟨bx21, hat21, Eb21⟩ := hel ((p1 + (128 : Int32))).toNatClampNeg (own_boxlt hsz hin21)
      obtain ⟨fs, hr, hrun, hended, hW, hsame⟩ := X20.leave (v := some (.ref bx21)) (fun h => by rw [Bd.returns] at h; cases h) (by first | exact BodyLoose.notSynchronized Bd | exact Body.notSynchronized Bd)
      refine ⟨_, _, pre11 _ ?_, hrun, hended, _, _, rfl, ?_, ⟨_, rfl⟩, hW, hsame.mono (by decide) (by decide)⟩
      · show Steps p.tables e below (T10.setTop (mkF m 10 #[.val (.int p1)] [(.int (127 : Int32)), (.int p1)])) _
        refine XS.icmpNo X10.here hx rfl (hb hby d5_10) rfl (flt hc12).2.2.1 ?_
        show Steps p.tables e below (T10.setTop (mkF m 13 _ [])) _
        refine st20 _ ?_
        show Steps p.tables e below (T20.setTop (mkF m 16 _ [(.ref w_cache)])) _
        refine XS.iloadN X20.here hx rfl (hb hby d5_16) rfl ?_
        show Steps p.tables e below (T20.setTop (mkF m 17 _ [(.int p1), (.ref w_cache)])) _
        refine XS.sipush X20.here hx rfl (hb hby d5_17) ?_
        show Steps p.tables e below (T20.setTop (mkF m 20 _ [(.int (128 : Int32)), (.int p1), (.ref w_cache)])) _
        refine XS.iadd X20.here hx rfl (hb hby d5_20) rfl ?_
        show Steps p.tables e below (T20.setTop (mkF m 21 _ [(.int (p1 + (128 : Int32))), (.ref w_cache)])) _
        refine X20.aaload hx (j := (p1 + (128 : Int32))) (v := (.ref bx21)) (by rw [e20]; exact (AR.ext O0.2).1) (State.isArrayOf_alike hZ.alike AR.2.1) rfl AR.2.2 hin21 hat21 (g := (mkF m 21 #[.val (.int p1)] [(.int (p1 + (128 : Int32))), (.ref w_cache)])) rfl rfl (hb hby d5_21) _ ?_
        show Steps p.tables e below (T20.setTop (mkF m 22 #[.val (.int p1)] [(.ref bx21)])) _
        jvm_step X20.here [X20.here.top, hx, (hb hby d5_22), X20.method', Bd.returns, Value.isRef, FieldType.isReference]
        first | (intro acts; rw [hr _ acts rfl rfl rfl]) | rw [hr _ _ rfl rfl rfl]
        exact Steps.refl _
      · show Q5 Z p1 w_cache cl_w h0 n0 _ T20.heap _
        rw [e20]
        have Ex22 := (Eb21.ext O0.2)
        exact ⟨bx21, rfl, N0, (Keep.refl h0 []), Ex22⟩
theorem pn_0 : plainName "com/example/neat_contract/neatcontract/document/PositionEqualsPinLaw" = true := by first | (simp [plainName, overriddenIn]; done) | decide +kernel
theorem pd_0_0 : parseMethodDescriptor "(II)I" = some ⟨[.int, .int], some .int⟩ := by decide +kernel
theorem pd_0_1 : parseMethodDescriptor "(II)V" = some ⟨[.int, .int], none⟩ := by decide +kernel
theorem pd_0_3 : parseMethodDescriptor "(Ljava/lang/Object;)Z" = some ⟨[(.object "java/lang/Object")], some .boolean⟩ := by decide +kernel
theorem pd_0_4 : parseMethodDescriptor "(I)Ljava/lang/Integer;" = some ⟨[.int], some (.object "java/lang/Integer")⟩ := by decide +kernel
theorem ef_0 (m : MethodId) (x0 : Int32) (x1 : Int32) (x2 : Int32) (x3 : Int32) (x4 : Int32) : entryFrame m #[(.int x0), (.int x1), (.int x2), (.int x3), (.int x4)] maxLocals = mkF m 0 #[.val (.int x0), .val (.int x1), .val (.int x2), .val (.int x3), .val (.int x4), .unset, .unset, .unset, .unset, .unset, .unset, .unset] [] := by first | (simp [entryFrame, mkF, argsToLocals, Value.category, maxLocals]; done) | rfl
def f0 (p1 : Int32) (p2 : Int32) (p3 : Int32) (p4 : Int32) (p5 : Int32) (w_cache : Addr) (cl_w : Cell) : Int32 := (if (p5 &&& (1 : Int32)) = (0 : Int32) then (if (p5 &&& (2 : Int32)) = (0 : Int32) then (if (f1 (1 : Int32) (p1 &&& (2147483647 : Int32))) = (f1 (1 : Int32) (p3 &&& (2147483647 : Int32))) then (if (f1 (1 : Int32) (p2 &&& (2147483647 : Int32))) = (f1 (1 : Int32) (p4 &&& (2147483647 : Int32))) then (1 : Int32) else (1 : Int32)) else (1 : Int32)) else (if (f1 (1 : Int32) (p1 &&& (2147483647 : Int32))) = (f1 (1 : Int32) (p3 &&& (2147483647 : Int32))) then (1 : Int32) else (1 : Int32))) else (if (p5 &&& (2 : Int32)) = (0 : Int32) then (if (f1 (1 : Int32) (p2 &&& (2147483647 : Int32))) = (f1 (1 : Int32) (p4 &&& (2147483647 : Int32))) then (1 : Int32) else (1 : Int32)) else (1 : Int32)))
def Q0 (Z : State) (p1 : Int32) (p2 : Int32) (p3 : Int32) (p4 : Int32) (p5 : Int32) (w_cache : Addr) (cl_w : Cell) (h0 : Heap) (n0 : Nat) (v : Option Value) (h : Heap) (L : List Loc) : Prop := v = some (.int (f0 p1 p2 p3 p4 p5 w_cache cl_w)) ∧ Fr n0 L
theorem own_max (x : Int32) : ¬ (f1 (1 : Int32) x < (1 : Int32)) := by
  unfold f1
  split
  · rename_i h
    rw [Int32.lt_iff_toInt_lt] at h ⊢
    omega
  · decide
theorem own_sym (a b c d : Int32) : f4 a b c d = f4 b a d c := by
  unfold f4
  (repeat' split) <;> simp_all
set_option maxRecDepth 65536 in
set_option maxHeartbeats 40000000 in
theorem rm0 (l : Launch) (Z : State) (a0 : Array Value) (hw : ∀ d ∈ tables_1, d.before a0 Z = true) (ws : List Jvm.Cond) (p1 : Int32) (p2 : Int32) (p3 : Int32) (p4 : Int32) (p5 : Int32) (w_cache : Addr) (cl_w : Cell) (h0 : Heap) (n0 : Nat) (Z0 : n0 ≤ h0.size) (Sz_high : Sta Z Z.heap "java/lang/Integer$IntegerCache" "high" "I" (.int (127 : Int32))) (Sz_cache : Sta Z Z.heap "java/lang/Integer$IntegerCache" "cache" "[Ljava/lang/Integer;" (.ref w_cache)) (AR : Arr Z Z.heap w_cache cl_w (.object "java/lang/Integer")) (hsz : cl_w.slots.size = 256) (hel : ∀ j : Nat, j < 256 → ∃ b : Addr, cl_w.slots[j]? = some (.ref b) ∧ Exa Z Z.heap b "java/lang/Integer") (O0 : Old Z n0 h0) :
    MetFree l x (head1 (Jvm.Cond.code x code maxLocals ret :: ws) room_1) (fun a U => a = #[(.int p1), (.int p2), (.int p3), (.int p4), (.int p5)] ∧ Z.Warmed39 U.vm ∧ U.heap = h0) (fun _ _ _ _ _ => True) (fun _ U o U' => ∃ v L, o = .returned v ∧ Q0 Z p1 p2 p3 p4 p5 w_cache cl_w h0 n0 v U'.heap L ∧ FrameEnd U o U' L room_1.cells room_1.slots) := by
  refine MetFree.of_bodySF (plainFor_of_name pn_0) hisR ?_
  intro p e s m args below meth c s₁ Bd hml0 hP hK
  obtain ⟨rfl, hZ, hh⟩ := hP
  have hx := Bd.exec
  have hby := Bd.bytes
  have hml : c.maxLocals = 12 := hml0
  have hown : s.vm.findClass "com/example/neat_contract/neatcontract/document/PositionEqualsPinLaw" = some m.cls := findClass_of_methodNamed Bd.named
  have hnm := (name_of_methodNamed Bd.named Bd.method).1
  have X0 : Stand p l e room_1 s m #[(.int p1), (.int p2), (.int p3), (.int p4), (.int p5)] below meth c s₁ [] 0 0 := Stand.of_body Bd
  have e0 : s₁.heap = h0 := by rw [← hh, Bd.state]; rfl
  have N0 := Fr.nil n0
  have pre0 : ∀ t, Steps p.tables e below (s₁.setTop (mkF m 0 #[.val (.int p1), .val (.int p2), .val (.int p3), .val (.int p4), .val (.int p5), .unset, .unset, .unset, .unset, .unset, .unset, .unset] [])) t → Steps p.tables e below (s₁.setTop (entryFrame m #[(.int p1), (.int p2), (.int p3), (.int p4), (.int p5)] maxLocals)) t := fun t k => castTop (ef_0 m p1 p2 p3 p4 p5) k
  obtain ⟨_, _, ⟨T6, L6, k6, n6⟩, -, X6, ⟨Lc6, hQ6, l6, y6, z6⟩, st6⟩ := Jvm.LawKit.callS X0 hx (y := (⟨"java/lang/Math", "max", "(II)I"⟩ : MethodName)) hown (mvT hZ (hw _ (List.mem_of_getElem? (i := 1) rfl))) (mvT hZ (hw _ (List.mem_of_getElem? (i := 2) rfl))) (mvT hZ (hw _ (List.mem_of_getElem? (i := 3) rfl))) (mvT hZ (hw _ (List.mem_of_getElem? (i := 4) rfl))) (by decide) (backOf (W := 0) (rm1 l Z a0 hw [] (1 : Int32) (p1 &&& (2147483647 : Int32)) h0 n0 Z0 ) hZ (hw _ (List.mem_of_getElem? (i := 4) rfl)) (hw _ (List.mem_of_getElem? (i := 3) rfl)) (by decide) (by decide)) (g := (mkF m 5 #[.val (.int p1), .val (.int p2), .val (.int p3), .val (.int p4), .val (.int p5), .unset, .unset, .unset, .unset, .unset, .unset, .unset] [(.int (p1 &&& (2147483647 : Int32))), (.int (1 : Int32))])) rfl (by rw [hml]; rfl) (argsL := [(.int (1 : Int32)), (.int (p1 &&& (2147483647 : Int32)))]) (rest := []) (lenOf pd_0_0 rfl) rfl (by show 2 * 0 + _ ≤ _; exact Nat.le_of_eq rfl) (hb hby at_5) (fun _ _ => ⟨rfl, e0, (by decide : 0 + 0 ≤ _), (by decide : 0 + 0 ≤ _)⟩)
  dsimp only [Pt.U, Pt.locs, Pt.cells, Pt.slots] at X6 l6 y6 z6 st6 hQ6
  subst l6 y6 z6
  obtain ⟨rfl, N6q, e6⟩ := hQ6
  have N6 := Fr.app N0 N6q
  obtain ⟨_, _, ⟨T7, L7, k7, n7⟩, -, X7, ⟨Lc7, hQ7, l7, y7, z7⟩, st7⟩ := Jvm.LawKit.callS X6 hx (y := (⟨"java/lang/Math", "max", "(II)I"⟩ : MethodName)) hown (mvT hZ (hw _ (List.mem_of_getElem? (i := 1) rfl))) (mvT hZ (hw _ (List.mem_of_getElem? (i := 2) rfl))) (mvT hZ (hw _ (List.mem_of_getElem? (i := 3) rfl))) (mvT hZ (hw _ (List.mem_of_getElem? (i := 4) rfl))) (by decide) (backOf (W := 0) (rm1 l Z a0 hw [] (1 : Int32) (p2 &&& (2147483647 : Int32)) h0 n0 Z0 ) hZ (hw _ (List.mem_of_getElem? (i := 4) rfl)) (hw _ (List.mem_of_getElem? (i := 3) rfl)) (by decide) (by decide)) (g := (mkF m 15 #[.val (.int p1), .val (.int p2), .val (.int p3), .val (.int p4), .val (.int p5), .val (.int (f1 (1 : Int32) (p1 &&& (2147483647 : Int32)))), .unset, .unset, .unset, .unset, .unset, .unset] [(.int (p2 &&& (2147483647 : Int32))), (.int (1 : Int32))])) rfl (by rw [hml]; rfl) (argsL := [(.int (1 : Int32)), (.int (p2 &&& (2147483647 : Int32)))]) (rest := []) (lenOf pd_0_0 rfl) rfl (by show 2 * 0 + _ ≤ _; exact Nat.le_of_eq rfl) (hb hby at_15) (fun _ _ => ⟨rfl, e6, (by decide : 0 + 0 ≤ _), (by decide : 0 + 0 ≤ _)⟩)
  dsimp only [Pt.U, Pt.locs, Pt.cells, Pt.slots] at X7 l7 y7 z7 st7 hQ7
  subst l7 y7 z7
  obtain ⟨rfl, N7q, e7⟩ := hQ7
  have N7 := Fr.app N6 N7q
  have pre8 : ∀ t, Steps p.tables e below (T7.setTop (mkF m 24 #[.val (.int p1), .val (.int p2), .val (.int p3), .val (.int p4), .val (.int p5), .val (.int (f1 (1 : Int32) (p1 &&& (2147483647 : Int32)))), .val (.int (f1 (1 : Int32) (p2 &&& (2147483647 : Int32)))), .unset, .unset, .unset, .unset, .unset] [(.int (p5 &&& (1 : Int32)))])) t → Steps p.tables e below (s₁.setTop (entryFrame m #[(.int p1), (.int p2), (.int p3), (.int p4), (.int p5)] maxLocals)) t := fun t kt => by
    refine pre0 _ ?_
    show Steps p.tables e below (s₁.setTop (mkF m 0 #[.val (.int p1), .val (.int p2), .val (.int p3), .val (.int p4), .val (.int p5), .unset, .unset, .unset, .unset, .unset, .unset, .unset] [])) _
    refine XS.iconst X0.here hx rfl (hb hby at_0) ?_
    show Steps p.tables e below (s₁.setTop (mkF m 1 _ [(.int (1 : Int32))])) _
    refine XS.iloadN X0.here hx rfl (hb hby at_1) rfl ?_
    show Steps p.tables e below (s₁.setTop (mkF m 2 _ [(.int p1), (.int (1 : Int32))])) _
    refine X0.ldcInt hx hown (mvT hZ (hw _ (List.mem_of_getElem? (i := 0) rfl))) (g := (mkF m 2 #[.val (.int p1), .val (.int p2), .val (.int p3), .val (.int p4), .val (.int p5), .unset, .unset, .unset, .unset, .unset, .unset, .unset] [(.int p1), (.int (1 : Int32))])) rfl (hb hby at_2) _ ?_
    show Steps p.tables e below (s₁.setTop (mkF m 4 _ [(.int (2147483647 : Int32)), (.int p1), (.int (1 : Int32))])) _
    refine XS.iand X0.here hx rfl (hb hby at_4) rfl ?_
    show Steps p.tables e below (s₁.setTop (mkF m 5 _ [(.int (p1 &&& (2147483647 : Int32))), (.int (1 : Int32))])) _
    refine st6 _ ?_
    show Steps p.tables e below (T6.setTop (mkF m 8 _ [(.int (f1 (1 : Int32) (p1 &&& (2147483647 : Int32))))])) _
    refine XS.istore X6.here hx rfl (hb hby at_8) rfl (l' := #[.val (.int p1), .val (.int p2), .val (.int p3), .val (.int p4), .val (.int p5), .val (.int (f1 (1 : Int32) (p1 &&& (2147483647 : Int32)))), .unset, .unset, .unset, .unset, .unset, .unset]) rfl ?_
    show Steps p.tables e below (T6.setTop (mkF m 10 _ [])) _
    refine XS.iconst X6.here hx rfl (hb hby at_10) ?_
    show Steps p.tables e below (T6.setTop (mkF m 11 _ [(.int (1 : Int32))])) _
    refine XS.iloadN X6.here hx rfl (hb hby at_11) rfl ?_
    show Steps p.tables e below (T6.setTop (mkF m 12 _ [(.int p2), (.int (1 : Int32))])) _
    refine X6.ldcInt hx hown (mvT hZ (hw _ (List.mem_of_getElem? (i := 0) rfl))) (g := (mkF m 12 #[.val (.int p1), .val (.int p2), .val (.int p3), .val (.int p4), .val (.int p5), .val (.int (f1 (1 : Int32) (p1 &&& (2147483647 : Int32)))), .unset, .unset, .unset, .unset, .unset, .unset] [(.int p2), (.int (1 : Int32))])) rfl (hb hby at_12) _ ?_
    show Steps p.tables e below (T6.setTop (mkF m 14 _ [(.int (2147483647 : Int32)), (.int p2), (.int (1 : Int32))])) _
    refine XS.iand X6.here hx rfl (hb hby at_14) rfl ?_
    show Steps p.tables e below (T6.setTop (mkF m 15 _ [(.int (p2 &&& (2147483647 : Int32))), (.int (1 : Int32))])) _
    refine st7 _ ?_
    show Steps p.tables e below (T7.setTop (mkF m 18 _ [(.int (f1 (1 : Int32) (p2 &&& (2147483647 : Int32))))])) _
    refine XS.istore X7.here hx rfl (hb hby at_18) rfl (l' := #[.val (.int p1), .val (.int p2), .val (.int p3), .val (.int p4), .val (.int p5), .val (.int (f1 (1 : Int32) (p1 &&& (2147483647 : Int32)))), .val (.int (f1 (1 : Int32) (p2 &&& (2147483647 : Int32)))), .unset, .unset, .unset, .unset, .unset]) rfl ?_
    show Steps p.tables e below (T7.setTop (mkF m 20 _ [])) _
    refine XS.iload X7.here hx rfl (hb hby at_20) rfl ?_
    show Steps p.tables e below (T7.setTop (mkF m 22 _ [(.int p5)])) _
    refine XS.iconst X7.here hx rfl (hb hby at_22) ?_
    show Steps p.tables e below (T7.setTop (mkF m 23 _ [(.int (1 : Int32)), (.int p5)])) _
    refine XS.iand X7.here hx rfl (hb hby at_23) rfl ?_
    exact kt
  by_cases hc9 : (p5 &&& (1 : Int32)) = (0 : Int32)
  · skip
    obtain ⟨_, _, ⟨T10, L10, k10, n10⟩, -, X10, ⟨Lc10, hQ10, l10, y10, z10⟩, st10⟩ := Jvm.LawKit.callS X7 hx (y := (⟨"java/lang/Math", "max", "(II)I"⟩ : MethodName)) hown (mvT hZ (hw _ (List.mem_of_getElem? (i := 1) rfl))) (mvT hZ (hw _ (List.mem_of_getElem? (i := 2) rfl))) (mvT hZ (hw _ (List.mem_of_getElem? (i := 3) rfl))) (mvT hZ (hw _ (List.mem_of_getElem? (i := 4) rfl))) (by decide) (backOf (W := 0) (rm1 l Z a0 hw [] (1 : Int32) (p3 &&& (2147483647 : Int32)) h0 n0 Z0 ) hZ (hw _ (List.mem_of_getElem? (i := 4) rfl)) (hw _ (List.mem_of_getElem? (i := 3) rfl)) (by decide) (by decide)) (g := (mkF m 37 #[.val (.int p1), .val (.int p2), .val (.int p3), .val (.int p4), .val (.int p5), .val (.int (f1 (1 : Int32) (p1 &&& (2147483647 : Int32)))), .val (.int (f1 (1 : Int32) (p2 &&& (2147483647 : Int32)))), .unset, .unset, .unset, .unset, .unset] [(.int (p3 &&& (2147483647 : Int32))), (.int (1 : Int32))])) rfl (by rw [hml]; rfl) (argsL := [(.int (1 : Int32)), (.int (p3 &&& (2147483647 : Int32)))]) (rest := []) (lenOf pd_0_0 rfl) rfl (by show 2 * 0 + _ ≤ _; exact Nat.le_of_eq rfl) (hb hby at_37) (fun _ _ => ⟨rfl, e7, (by decide : 0 + 0 ≤ _), (by decide : 0 + 0 ≤ _)⟩)
    dsimp only [Pt.U, Pt.locs, Pt.cells, Pt.slots] at X10 l10 y10 z10 st10 hQ10
    subst l10 y10 z10
    obtain ⟨rfl, N10q, e10⟩ := hQ10
    have N10 := Fr.app N7 N10q
    have pre11 : ∀ t, Steps p.tables e below (T10.setTop (mkF m 46 #[.val (.int p1), .val (.int p2), .val (.int p3), .val (.int p4), .val (.int p5), .val (.int (f1 (1 : Int32) (p1 &&& (2147483647 : Int32)))), .val (.int (f1 (1 : Int32) (p2 &&& (2147483647 : Int32)))), .val (.int (f1 (1 : Int32) (p3 &&& (2147483647 : Int32)))), .unset, .unset, .unset, .unset] [(.int (p5 &&& (2 : Int32)))])) t → Steps p.tables e below (s₁.setTop (entryFrame m #[(.int p1), (.int p2), (.int p3), (.int p4), (.int p5)] maxLocals)) t := fun t kt => by
      refine pre8 _ ?_
      show Steps p.tables e below (T7.setTop (mkF m 24 #[.val (.int p1), .val (.int p2), .val (.int p3), .val (.int p4), .val (.int p5), .val (.int (f1 (1 : Int32) (p1 &&& (2147483647 : Int32)))), .val (.int (f1 (1 : Int32) (p2 &&& (2147483647 : Int32)))), .unset, .unset, .unset, .unset, .unset] [(.int (p5 &&& (1 : Int32)))])) _
      refine XS.ifYes X7.here hx rfl (pc0 := 24) (pc' := 32) rfl (hb hby at_24) rfl ((if0 _ _).trans (teq hc9).1) (by decide) (by decide) ?_
      show Steps p.tables e below (T7.setTop (mkF m 32 _ [])) _
      refine XS.iconst X7.here hx rfl (hb hby at_32) ?_
      show Steps p.tables e below (T7.setTop (mkF m 33 _ [(.int (1 : Int32))])) _
      refine XS.iloadN X7.here hx rfl (hb hby at_33) rfl ?_
      show Steps p.tables e below (T7.setTop (mkF m 34 _ [(.int p3), (.int (1 : Int32))])) _
      refine X7.ldcInt hx hown (mvT hZ (hw _ (List.mem_of_getElem? (i := 0) rfl))) (g := (mkF m 34 #[.val (.int p1), .val (.int p2), .val (.int p3), .val (.int p4), .val (.int p5), .val (.int (f1 (1 : Int32) (p1 &&& (2147483647 : Int32)))), .val (.int (f1 (1 : Int32) (p2 &&& (2147483647 : Int32)))), .unset, .unset, .unset, .unset, .unset] [(.int p3), (.int (1 : Int32))])) rfl (hb hby at_34) _ ?_
      show Steps p.tables e below (T7.setTop (mkF m 36 _ [(.int (2147483647 : Int32)), (.int p3), (.int (1 : Int32))])) _
      refine XS.iand X7.here hx rfl (hb hby at_36) rfl ?_
      show Steps p.tables e below (T7.setTop (mkF m 37 _ [(.int (p3 &&& (2147483647 : Int32))), (.int (1 : Int32))])) _
      refine st10 _ ?_
      show Steps p.tables e below (T10.setTop (mkF m 40 _ [(.int (f1 (1 : Int32) (p3 &&& (2147483647 : Int32))))])) _
      refine XS.istore X10.here hx rfl (hb hby at_40) rfl (l' := #[.val (.int p1), .val (.int p2), .val (.int p3), .val (.int p4), .val (.int p5), .val (.int (f1 (1 : Int32) (p1 &&& (2147483647 : Int32)))), .val (.int (f1 (1 : Int32) (p2 &&& (2147483647 : Int32)))), .val (.int (f1 (1 : Int32) (p3 &&& (2147483647 : Int32)))), .unset, .unset, .unset, .unset]) rfl ?_
      show Steps p.tables e below (T10.setTop (mkF m 42 _ [])) _
      refine XS.iload X10.here hx rfl (hb hby at_42) rfl ?_
      show Steps p.tables e below (T10.setTop (mkF m 44 _ [(.int p5)])) _
      refine XS.iconst X10.here hx rfl (hb hby at_44) ?_
      show Steps p.tables e below (T10.setTop (mkF m 45 _ [(.int (2 : Int32)), (.int p5)])) _
      refine XS.iand X10.here hx rfl (hb hby at_45) rfl ?_
      exact kt
    by_cases hc12 : (p5 &&& (2 : Int32)) = (0 : Int32)
    · skip
      obtain ⟨_, _, ⟨T13, L13, k13, n13⟩, -, X13, ⟨Lc13, hQ13, l13, y13, z13⟩, st13⟩ := Jvm.LawKit.callS X10 hx (y := (⟨"java/lang/Math", "max", "(II)I"⟩ : MethodName)) hown (mvT hZ (hw _ (List.mem_of_getElem? (i := 1) rfl))) (mvT hZ (hw _ (List.mem_of_getElem? (i := 2) rfl))) (mvT hZ (hw _ (List.mem_of_getElem? (i := 3) rfl))) (mvT hZ (hw _ (List.mem_of_getElem? (i := 4) rfl))) (by decide) (backOf (W := 0) (rm1 l Z a0 hw [] (1 : Int32) (p4 &&& (2147483647 : Int32)) h0 n0 Z0 ) hZ (hw _ (List.mem_of_getElem? (i := 4) rfl)) (hw _ (List.mem_of_getElem? (i := 3) rfl)) (by decide) (by decide)) (g := (mkF m 59 #[.val (.int p1), .val (.int p2), .val (.int p3), .val (.int p4), .val (.int p5), .val (.int (f1 (1 : Int32) (p1 &&& (2147483647 : Int32)))), .val (.int (f1 (1 : Int32) (p2 &&& (2147483647 : Int32)))), .val (.int (f1 (1 : Int32) (p3 &&& (2147483647 : Int32)))), .unset, .unset, .unset, .unset] [(.int (p4 &&& (2147483647 : Int32))), (.int (1 : Int32))])) rfl (by rw [hml]; rfl) (argsL := [(.int (1 : Int32)), (.int (p4 &&& (2147483647 : Int32)))]) (rest := []) (lenOf pd_0_0 rfl) rfl (by show 2 * 0 + _ ≤ _; exact Nat.le_of_eq rfl) (hb hby at_59) (fun _ _ => ⟨rfl, e10, (by decide : 0 + 0 ≤ _), (by decide : 0 + 0 ≤ _)⟩)
      dsimp only [Pt.U, Pt.locs, Pt.cells, Pt.slots] at X13 l13 y13 z13 st13 hQ13
      subst l13 y13 z13
      obtain ⟨rfl, N13q, e13⟩ := hQ13
      have N13 := Fr.app N10 N13q
      obtain ⟨T14, h14, X14, e14, E14, A14, D14, -, st14⟩ := newO X13 hx hZ hown (hw _ (List.mem_of_getElem? (i := 5) rfl)) (hw _ (List.mem_of_getElem? (i := 6) rfl)) (hw _ (List.mem_of_getElem? (i := 7) rfl)) e13 (g := (mkF m 64 #[.val (.int p1), .val (.int p2), .val (.int p3), .val (.int p4), .val (.int p5), .val (.int (f1 (1 : Int32) (p1 &&& (2147483647 : Int32)))), .val (.int (f1 (1 : Int32) (p2 &&& (2147483647 : Int32)))), .val (.int (f1 (1 : Int32) (p3 &&& (2147483647 : Int32)))), .val (.int (f1 (1 : Int32) (p4 &&& (2147483647 : Int32)))), .unset, .unset, .unset] [])) rfl (hb hby at_64) (by decide) (by decide)
      obtain ⟨b14, g14⟩ : ∃ z, z = h0.size := ⟨_, rfl⟩
      rw [← g14] at A14 D14 st14
      have g_b14 : n0 ≤ b14 := Nat.le_trans Z0 (Nat.le_of_eq g14.symm)
      have F_line_b14 : Fld Z h14 b14 "com/example/neat_contract/neatcontract/document/Position" "line" "I" (.int (0 : Int32)) := D14 (Or.inr (hw _ (List.mem_of_getElem? (i := 15) rfl))) (ty := .int) (by decide)
      have F_column_b14 : Fld Z h14 b14 "com/example/neat_contract/neatcontract/document/Position" "column" "I" (.int (0 : Int32)) := D14 (Or.inr (hw _ (List.mem_of_getElem? (i := 17) rfl))) (ty := .int) (by decide)
      have Od16 := (O0.ext E14)
      have Zs17 : n0 ≤ h14.size := (Nat.le_trans Z0 E14.1)
      obtain ⟨_, _, ⟨T15, L15, k15, n15⟩, -, X15, ⟨Lc15, hQ15, l15, y15, z15⟩, st15⟩ := X14.specialBack hx (y := (⟨"com/example/neat_contract/neatcontract/document/Position", "<init>", "(II)V"⟩ : MethodName)) rfl hown (mvT hZ (hw _ (List.mem_of_getElem? (i := 8) rfl))) (mvT hZ (hw _ (List.mem_of_getElem? (i := 9) rfl))) (mvT hZ (hw _ (List.mem_of_getElem? (i := 10) rfl))) (by decide) (backOf (W := 1) (rm2 l Z a0 hw [] b14 (f1 (1 : Int32) (p1 &&& (2147483647 : Int32))) (f1 (1 : Int32) (p2 &&& (2147483647 : Int32))) (.int (0 : Int32)) (.int (0 : Int32)) h14 n0 Zs17 (own_max _) (own_max _) A14 F_line_b14 F_column_b14 g_b14) hZ (hw _ (List.mem_of_getElem? (i := 10) rfl)) (hw _ (List.mem_of_getElem? (i := 7) rfl)) (by decide) (by decide)) (g := (mkF m 72 #[.val (.int p1), .val (.int p2), .val (.int p3), .val (.int p4), .val (.int p5), .val (.int (f1 (1 : Int32) (p1 &&& (2147483647 : Int32)))), .val (.int (f1 (1 : Int32) (p2 &&& (2147483647 : Int32)))), .val (.int (f1 (1 : Int32) (p3 &&& (2147483647 : Int32)))), .val (.int (f1 (1 : Int32) (p4 &&& (2147483647 : Int32)))), .unset, .unset, .unset] [(.int (f1 (1 : Int32) (p2 &&& (2147483647 : Int32)))), (.int (f1 (1 : Int32) (p1 &&& (2147483647 : Int32)))), (.ref b14), (.ref b14)])) rfl (by rw [hml]; rfl) (Steps.refl _) (a := b14) (argsL := [(.int (f1 (1 : Int32) (p1 &&& (2147483647 : Int32)))), (.int (f1 (1 : Int32) (p2 &&& (2147483647 : Int32))))]) (rest := [(.ref b14)]) (lenOf pd_0_1 rfl) rfl (by show 2 * 0 + _ ≤ _; exact Nat.le_of_eq rfl) (hb hby at_72) (fun _ _ => ⟨rfl, e14, (by decide : 1 + 0 ≤ _), (by decide : 2 + 0 ≤ _)⟩)
      dsimp only [Pt.U, Pt.locs, Pt.cells, Pt.slots] at X15 l15 y15 z15 st15 hQ15
      subst l15 y15 z15
      obtain ⟨rfl, N15q, Kp15, qp15_0, qp15_1, qp15_2⟩ := hQ15
      have N15 := Fr.app N13 N15q
      have Od18 := (Od16.keep Kp15 (allS g_b14 all0))
      have Zs19 : n0 ≤ T15.heap.size := (Nat.le_trans Zs17 Kp15.1)
      obtain ⟨T20, h20, X20, e20, E20, A20, D20, -, st20⟩ := newO X15 hx hZ hown (hw _ (List.mem_of_getElem? (i := 5) rfl)) (hw _ (List.mem_of_getElem? (i := 6) rfl)) (hw _ (List.mem_of_getElem? (i := 7) rfl)) rfl (g := (mkF m 77 #[.val (.int p1), .val (.int p2), .val (.int p3), .val (.int p4), .val (.int p5), .val (.int (f1 (1 : Int32) (p1 &&& (2147483647 : Int32)))), .val (.int (f1 (1 : Int32) (p2 &&& (2147483647 : Int32)))), .val (.int (f1 (1 : Int32) (p3 &&& (2147483647 : Int32)))), .val (.int (f1 (1 : Int32) (p4 &&& (2147483647 : Int32)))), .val (.ref b14), .unset, .unset] [])) rfl (hb hby at_77) (by decide) (by decide)
      obtain ⟨b20, g20⟩ : ∃ z, z = T15.heap.size := ⟨_, rfl⟩
      rw [← g20] at A20 D20 st20
      have g_b20 : n0 ≤ b20 := Nat.le_trans Zs19 (Nat.le_of_eq g20.symm)
      have ne_b14_b20 : b14 ≠ b20 := Nat.ne_of_lt (Nat.lt_of_lt_of_le qp15_0.lt (Nat.le_of_eq g20.symm))
      have F_line_b20 : Fld Z h20 b20 "com/example/neat_contract/neatcontract/document/Position" "line" "I" (.int (0 : Int32)) := D20 (Or.inr (hw _ (List.mem_of_getElem? (i := 15) rfl))) (ty := .int) (by decide)
      have F_column_b20 : Fld Z h20 b20 "com/example/neat_contract/neatcontract/document/Position" "column" "I" (.int (0 : Int32)) := D20 (Or.inr (hw _ (List.mem_of_getElem? (i := 17) rfl))) (ty := .int) (by decide)
      have F22 := (qp15_1.ext E20)
      have F23 := (qp15_2.ext E20)
      have Ex24 := (qp15_0.ext E20)
      have Od25 := (Od18.ext E20)
      have Zs26 : n0 ≤ h20.size := (Nat.le_trans Zs19 E20.1)
      obtain ⟨_, _, ⟨T21, L21, k21, n21⟩, -, X21, ⟨Lc21, hQ21, l21, y21, z21⟩, st21⟩ := X20.specialBack hx (y := (⟨"com/example/neat_contract/neatcontract/document/Position", "<init>", "(II)V"⟩ : MethodName)) rfl hown (mvT hZ (hw _ (List.mem_of_getElem? (i := 8) rfl))) (mvT hZ (hw _ (List.mem_of_getElem? (i := 9) rfl))) (mvT hZ (hw _ (List.mem_of_getElem? (i := 10) rfl))) (by decide) (backOf (W := 1) (rm2 l Z a0 hw [] b20 (f1 (1 : Int32) (p3 &&& (2147483647 : Int32))) (f1 (1 : Int32) (p4 &&& (2147483647 : Int32))) (.int (0 : Int32)) (.int (0 : Int32)) h20 n0 Zs26 (own_max _) (own_max _) A20 F_line_b20 F_column_b20 g_b20) hZ (hw _ (List.mem_of_getElem? (i := 10) rfl)) (hw _ (List.mem_of_getElem? (i := 7) rfl)) (by decide) (by decide)) (g := (mkF m 85 #[.val (.int p1), .val (.int p2), .val (.int p3), .val (.int p4), .val (.int p5), .val (.int (f1 (1 : Int32) (p1 &&& (2147483647 : Int32)))), .val (.int (f1 (1 : Int32) (p2 &&& (2147483647 : Int32)))), .val (.int (f1 (1 : Int32) (p3 &&& (2147483647 : Int32)))), .val (.int (f1 (1 : Int32) (p4 &&& (2147483647 : Int32)))), .val (.ref b14), .unset, .unset] [(.int (f1 (1 : Int32) (p4 &&& (2147483647 : Int32)))), (.int (f1 (1 : Int32) (p3 &&& (2147483647 : Int32)))), (.ref b20), (.ref b20)])) rfl (by rw [hml]; rfl) (Steps.refl _) (a := b20) (argsL := [(.int (f1 (1 : Int32) (p3 &&& (2147483647 : Int32)))), (.int (f1 (1 : Int32) (p4 &&& (2147483647 : Int32))))]) (rest := [(.ref b20)]) (lenOf pd_0_1 rfl) rfl (by show 2 * 0 + _ ≤ _; exact Nat.le_of_eq rfl) (hb hby at_85) (fun _ _ => ⟨rfl, e20, (by decide : 2 + 0 ≤ _), (by decide : 4 + 0 ≤ _)⟩)
      dsimp only [Pt.U, Pt.locs, Pt.cells, Pt.slots] at X21 l21 y21 z21 st21 hQ21
      subst l21 y21 z21
      obtain ⟨rfl, N21q, Kp21, qp21_0, qp21_1, qp21_2⟩ := hQ21
      have N21 := Fr.app N15 N21q
      have pre27 : ∀ t, Steps p.tables e below (T21.setTop (mkF m 94 #[.val (.int p1), .val (.int p2), .val (.int p3), .val (.int p4), .val (.int p5), .val (.int (f1 (1 : Int32) (p1 &&& (2147483647 : Int32)))), .val (.int (f1 (1 : Int32) (p2 &&& (2147483647 : Int32)))), .val (.int (f1 (1 : Int32) (p3 &&& (2147483647 : Int32)))), .val (.int (f1 (1 : Int32) (p4 &&& (2147483647 : Int32)))), .val (.ref b14), .val (.ref b20), .unset] [(.int (f1 (1 : Int32) (p3 &&& (2147483647 : Int32)))), (.int (f1 (1 : Int32) (p1 &&& (2147483647 : Int32))))])) t → Steps p.tables e below (s₁.setTop (entryFrame m #[(.int p1), (.int p2), (.int p3), (.int p4), (.int p5)] maxLocals)) t := fun t kt => by
        refine pre11 _ ?_
        show Steps p.tables e below (T10.setTop (mkF m 46 #[.val (.int p1), .val (.int p2), .val (.int p3), .val (.int p4), .val (.int p5), .val (.int (f1 (1 : Int32) (p1 &&& (2147483647 : Int32)))), .val (.int (f1 (1 : Int32) (p2 &&& (2147483647 : Int32)))), .val (.int (f1 (1 : Int32) (p3 &&& (2147483647 : Int32)))), .unset, .unset, .unset, .unset] [(.int (p5 &&& (2 : Int32)))])) _
        refine XS.ifYes X10.here hx rfl (pc0 := 46) (pc' := 54) rfl (hb hby at_46) rfl ((if0 _ _).trans (teq hc12).1) (by decide) (by decide) ?_
        show Steps p.tables e below (T10.setTop (mkF m 54 _ [])) _
        refine XS.iconst X10.here hx rfl (hb hby at_54) ?_
        show Steps p.tables e below (T10.setTop (mkF m 55 _ [(.int (1 : Int32))])) _
        refine XS.iloadN X10.here hx rfl (hb hby at_55) rfl ?_
        show Steps p.tables e below (T10.setTop (mkF m 56 _ [(.int p4), (.int (1 : Int32))])) _
        refine X10.ldcInt hx hown (mvT hZ (hw _ (List.mem_of_getElem? (i := 0) rfl))) (g := (mkF m 56 #[.val (.int p1), .val (.int p2), .val (.int p3), .val (.int p4), .val (.int p5), .val (.int (f1 (1 : Int32) (p1 &&& (2147483647 : Int32)))), .val (.int (f1 (1 : Int32) (p2 &&& (2147483647 : Int32)))), .val (.int (f1 (1 : Int32) (p3 &&& (2147483647 : Int32)))), .unset, .unset, .unset, .unset] [(.int p4), (.int (1 : Int32))])) rfl (hb hby at_56) _ ?_
        show Steps p.tables e below (T10.setTop (mkF m 58 _ [(.int (2147483647 : Int32)), (.int p4), (.int (1 : Int32))])) _
        refine XS.iand X10.here hx rfl (hb hby at_58) rfl ?_
        show Steps p.tables e below (T10.setTop (mkF m 59 _ [(.int (p4 &&& (2147483647 : Int32))), (.int (1 : Int32))])) _
        refine st13 _ ?_
        show Steps p.tables e below (T13.setTop (mkF m 62 _ [(.int (f1 (1 : Int32) (p4 &&& (2147483647 : Int32))))])) _
        refine XS.istore X13.here hx rfl (hb hby at_62) rfl (l' := #[.val (.int p1), .val (.int p2), .val (.int p3), .val (.int p4), .val (.int p5), .val (.int (f1 (1 : Int32) (p1 &&& (2147483647 : Int32)))), .val (.int (f1 (1 : Int32) (p2 &&& (2147483647 : Int32)))), .val (.int (f1 (1 : Int32) (p3 &&& (2147483647 : Int32)))), .val (.int (f1 (1 : Int32) (p4 &&& (2147483647 : Int32)))), .unset, .unset, .unset]) rfl ?_
        show Steps p.tables e below (T13.setTop (mkF m 64 _ [])) _
        refine st14 _ ?_
        show Steps p.tables e below (T14.setTop (mkF m 67 _ [(.ref b14)])) _
        refine XS.dup X14.here hx rfl (hb hby at_67) rfl rfl ?_
        show Steps p.tables e below (T14.setTop (mkF m 68 _ [(.ref b14), (.ref b14)])) _
        refine XS.iload X14.here hx rfl (hb hby at_68) rfl ?_
        show Steps p.tables e below (T14.setTop (mkF m 70 _ [(.int (f1 (1 : Int32) (p1 &&& (2147483647 : Int32)))), (.ref b14), (.ref b14)])) _
        refine XS.iload X14.here hx rfl (hb hby at_70) rfl ?_
        show Steps p.tables e below (T14.setTop (mkF m 72 _ [(.int (f1 (1 : Int32) (p2 &&& (2147483647 : Int32)))), (.int (f1 (1 : Int32) (p1 &&& (2147483647 : Int32)))), (.ref b14), (.ref b14)])) _
        refine st15.trans ?_
        show Steps p.tables e below (T15.setTop (mkF m 75 _ [(.ref b14)])) _
        refine XS.astore X15.here hx rfl (hb hby at_75) rfl rfl (l' := #[.val (.int p1), .val (.int p2), .val (.int p3), .val (.int p4), .val (.int p5), .val (.int (f1 (1 : Int32) (p1 &&& (2147483647 : Int32)))), .val (.int (f1 (1 : Int32) (p2 &&& (2147483647 : Int32)))), .val (.int (f1 (1 : Int32) (p3 &&& (2147483647 : Int32)))), .val (.int (f1 (1 : Int32) (p4 &&& (2147483647 : Int32)))), .val (.ref b14), .unset, .unset]) rfl ?_
        show Steps p.tables e below (T15.setTop (mkF m 77 _ [])) _
        refine st20 _ ?_
        show Steps p.tables e below (T20.setTop (mkF m 80 _ [(.ref b20)])) _
        refine XS.dup X20.here hx rfl (hb hby at_80) rfl rfl ?_
        show Steps p.tables e below (T20.setTop (mkF m 81 _ [(.ref b20), (.ref b20)])) _
        refine XS.iload X20.here hx rfl (hb hby at_81) rfl ?_
        show Steps p.tables e below (T20.setTop (mkF m 83 _ [(.int (f1 (1 : Int32) (p3 &&& (2147483647 : Int32)))), (.ref b20), (.ref b20)])) _
        refine XS.iload X20.here hx rfl (hb hby at_83) rfl ?_
        show Steps p.tables e below (T20.setTop (mkF m 85 _ [(.int (f1 (1 : Int32) (p4 &&& (2147483647 : Int32)))), (.int (f1 (1 : Int32) (p3 &&& (2147483647 : Int32)))), (.ref b20), (.ref b20)])) _
        refine st21.trans ?_
        show Steps p.tables e below (T21.setTop (mkF m 88 _ [(.ref b20)])) _
        refine XS.astore X21.here hx rfl (hb hby at_88) rfl rfl (l' := #[.val (.int p1), .val (.int p2), .val (.int p3), .val (.int p4), .val (.int p5), .val (.int (f1 (1 : Int32) (p1 &&& (2147483647 : Int32)))), .val (.int (f1 (1 : Int32) (p2 &&& (2147483647 : Int32)))), .val (.int (f1 (1 : Int32) (p3 &&& (2147483647 : Int32)))), .val (.int (f1 (1 : Int32) (p4 &&& (2147483647 : Int32)))), .val (.ref b14), .val (.ref b20), .unset]) rfl ?_
        show Steps p.tables e below (T21.setTop (mkF m 90 _ [])) _
        refine XS.iload X21.here hx rfl (hb hby at_90) rfl ?_
        show Steps p.tables e below (T21.setTop (mkF m 92 _ [(.int (f1 (1 : Int32) (p1 &&& (2147483647 : Int32))))])) _
        refine XS.iload X21.here hx rfl (hb hby at_92) rfl ?_
        exact kt
      by_cases hc28 : (f1 (1 : Int32) (p1 &&& (2147483647 : Int32))) = (f1 (1 : Int32) (p3 &&& (2147483647 : Int32)))
      · skip
        have pre29 : ∀ t, Steps p.tables e below (T21.setTop (mkF m 101 #[.val (.int p1), .val (.int p2), .val (.int p3), .val (.int p4), .val (.int p5), .val (.int (f1 (1 : Int32) (p1 &&& (2147483647 : Int32)))), .val (.int (f1 (1 : Int32) (p2 &&& (2147483647 : Int32)))), .val (.int (f1 (1 : Int32) (p3 &&& (2147483647 : Int32)))), .val (.int (f1 (1 : Int32) (p4 &&& (2147483647 : Int32)))), .val (.ref b14), .val (.ref b20), .unset] [(.int (f1 (1 : Int32) (p4 &&& (2147483647 : Int32)))), (.int (f1 (1 : Int32) (p2 &&& (2147483647 : Int32))))])) t → Steps p.tables e below (s₁.setTop (entryFrame m #[(.int p1), (.int p2), (.int p3), (.int p4), (.int p5)] maxLocals)) t := fun t kt => by
          refine pre27 _ ?_
          show Steps p.tables e below (T21.setTop (mkF m 94 #[.val (.int p1), .val (.int p2), .val (.int p3), .val (.int p4), .val (.int p5), .val (.int (f1 (1 : Int32) (p1 &&& (2147483647 : Int32)))), .val (.int (f1 (1 : Int32) (p2 &&& (2147483647 : Int32)))), .val (.int (f1 (1 : Int32) (p3 &&& (2147483647 : Int32)))), .val (.int (f1 (1 : Int32) (p4 &&& (2147483647 : Int32)))), .val (.ref b14), .val (.ref b20), .unset] [(.int (f1 (1 : Int32) (p3 &&& (2147483647 : Int32)))), (.int (f1 (1 : Int32) (p1 &&& (2147483647 : Int32))))])) _
          refine XS.icmpNo X21.here hx rfl (hb hby at_94) rfl (teq hc28).2 ?_
          show Steps p.tables e below (T21.setTop (mkF m 97 _ [])) _
          refine XS.iload X21.here hx rfl (hb hby at_97) rfl ?_
          show Steps p.tables e below (T21.setTop (mkF m 99 _ [(.int (f1 (1 : Int32) (p2 &&& (2147483647 : Int32))))])) _
          refine XS.iload X21.here hx rfl (hb hby at_99) rfl ?_
          exact kt
        by_cases hc30 : (f1 (1 : Int32) (p2 &&& (2147483647 : Int32))) = (f1 (1 : Int32) (p4 &&& (2147483647 : Int32)))
        · skip
          have F32 := (F22.keep Kp21 (ninS ne_b14_b20 nin0))
          have F33 := (F23.keep Kp21 (ninS ne_b14_b20 nin0))
          have Ex34 := (Ex24.keep Kp21)
          have Od35 := (Od25.keep Kp21 (allS g_b20 all0))
          have Zs36 : n0 ≤ T21.heap.size := (Nat.le_trans Zs26 Kp21.1)
          obtain ⟨cq31, kq31, q31a, q31b, q31c⟩ := isOf hZ rfl Ex34
          obtain ⟨_, _, ⟨T31, L31, k31, n31⟩, -, X31, ⟨Lc31, hQ31, l31, y31, z31⟩, st31⟩ := X21.virtualBack hx (y := (⟨"com/example/neat_contract/neatcontract/document/Position", "equals", "(Ljava/lang/Object;)Z"⟩ : MethodName)) (z := (⟨"com/example/neat_contract/neatcontract/document/Position", "equals", "(Ljava/lang/Object;)Z"⟩ : MethodName)) hown (mvT hZ (hw _ (List.mem_of_getElem? (i := 18) rfl))) (mvT hZ (hw _ (List.mem_of_getElem? (i := 19) rfl))) (notFace_of_selects (args := #[]) (mvT hZ (hw _ (List.mem_of_getElem? (i := 21) rfl)))) (mvT hZ (hw _ (List.mem_of_getElem? (i := 21) rfl))) (mvT hZ (hw _ (List.mem_of_getElem? (i := 20) rfl))) (by decide) (backOf (W := 0) (rm4 l Z a0 hw [] b14 b20 (f1 (1 : Int32) (p1 &&& (2147483647 : Int32))) (f1 (1 : Int32) (p3 &&& (2147483647 : Int32))) (f1 (1 : Int32) (p2 &&& (2147483647 : Int32))) (f1 (1 : Int32) (p4 &&& (2147483647 : Int32))) T21.heap n0 Zs36 qp21_0 F32 qp21_1 F33 qp21_2) hZ (hw _ (List.mem_of_getElem? (i := 22) rfl)) (hw _ (List.mem_of_getElem? (i := 7) rfl)) (by decide) (by decide)) q31a q31c (g := (mkF m 115 #[.val (.int p1), .val (.int p2), .val (.int p3), .val (.int p4), .val (.int p5), .val (.int (f1 (1 : Int32) (p1 &&& (2147483647 : Int32)))), .val (.int (f1 (1 : Int32) (p2 &&& (2147483647 : Int32)))), .val (.int (f1 (1 : Int32) (p3 &&& (2147483647 : Int32)))), .val (.int (f1 (1 : Int32) (p4 &&& (2147483647 : Int32)))), .val (.ref b14), .val (.ref b20), .val (.int (1 : Int32))] [(.ref b20), (.ref b14)])) rfl (by rw [hml]; rfl) (Steps.refl _) (argsL := [(.ref b20)]) (rest := []) (lenOf pd_0_3 rfl) rfl (by show 2 * 0 + _ ≤ _; exact Nat.le_of_eq rfl) (hb hby at_115) (fun _ _ => ⟨rfl, rfl, (by decide : 2 + 0 ≤ _), (by decide : 4 + 0 ≤ _)⟩)
          dsimp only [Pt.U, Pt.locs, Pt.cells, Pt.slots] at X31 l31 y31 z31 st31 hQ31
          subst l31 y31 z31
          obtain ⟨rfl, N31q, e31⟩ := hQ31
          have N31 := Fr.app N21 N31q
          obtain ⟨cq37, kq37, q37a, q37b, q37c⟩ := isOf hZ e31 qp21_0
          obtain ⟨_, _, ⟨T37, L37, k37, n37⟩, -, X37, ⟨Lc37, hQ37, l37, y37, z37⟩, st37⟩ := X31.virtualBack hx (y := (⟨"com/example/neat_contract/neatcontract/document/Position", "equals", "(Ljava/lang/Object;)Z"⟩ : MethodName)) (z := (⟨"com/example/neat_contract/neatcontract/document/Position", "equals", "(Ljava/lang/Object;)Z"⟩ : MethodName)) hown (mvT hZ (hw _ (List.mem_of_getElem? (i := 18) rfl))) (mvT hZ (hw _ (List.mem_of_getElem? (i := 19) rfl))) (notFace_of_selects (args := #[]) (mvT hZ (hw _ (List.mem_of_getElem? (i := 21) rfl)))) (mvT hZ (hw _ (List.mem_of_getElem? (i := 21) rfl))) (mvT hZ (hw _ (List.mem_of_getElem? (i := 20) rfl))) (by decide) (backOf (W := 0) (rm4 l Z a0 hw [] b20 b14 (f1 (1 : Int32) (p3 &&& (2147483647 : Int32))) (f1 (1 : Int32) (p1 &&& (2147483647 : Int32))) (f1 (1 : Int32) (p4 &&& (2147483647 : Int32))) (f1 (1 : Int32) (p2 &&& (2147483647 : Int32))) T21.heap n0 Zs36 Ex34 qp21_1 F32 qp21_2 F33) hZ (hw _ (List.mem_of_getElem? (i := 22) rfl)) (hw _ (List.mem_of_getElem? (i := 7) rfl)) (by decide) (by decide)) q37a q37c (g := (mkF m 127 #[.val (.int p1), .val (.int p2), .val (.int p3), .val (.int p4), .val (.int p5), .val (.int (f1 (1 : Int32) (p1 &&& (2147483647 : Int32)))), .val (.int (f1 (1 : Int32) (p2 &&& (2147483647 : Int32)))), .val (.int (f1 (1 : Int32) (p3 &&& (2147483647 : Int32)))), .val (.int (f1 (1 : Int32) (p4 &&& (2147483647 : Int32)))), .val (.ref b14), .val (.ref b20), .val (.int (1 : Int32))] [(.ref b14), (.ref b20)])) rfl (by rw [hml]; rfl) (Steps.refl _) (argsL := [(.ref b14)]) (rest := []) (lenOf pd_0_3 rfl) rfl (by show 2 * 0 + _ ≤ _; exact Nat.le_of_eq rfl) (hb hby at_127) (fun _ _ => ⟨rfl, e31, (by decide : 2 + 0 ≤ _), (by decide : 4 + 0 ≤ _)⟩)
          dsimp only [Pt.U, Pt.locs, Pt.cells, Pt.slots] at X37 l37 y37 z37 st37 hQ37
          subst l37 y37 z37
          obtain ⟨rfl, N37q, e37⟩ := hQ37
          have N37 := Fr.app N31 N37q
          obtain ⟨cq38, kq38, q38a, q38b, q38c⟩ := isOf hZ e37 Ex34
          obtain ⟨_, _, ⟨T38, L38, k38, n38⟩, -, X38, ⟨Lc38, hQ38, l38, y38, z38⟩, st38⟩ := X37.virtualBack hx (y := (⟨"com/example/neat_contract/neatcontract/document/Position", "equals", "(Ljava/lang/Object;)Z"⟩ : MethodName)) (z := (⟨"com/example/neat_contract/neatcontract/document/Position", "equals", "(Ljava/lang/Object;)Z"⟩ : MethodName)) hown (mvT hZ (hw _ (List.mem_of_getElem? (i := 18) rfl))) (mvT hZ (hw _ (List.mem_of_getElem? (i := 19) rfl))) (notFace_of_selects (args := #[]) (mvT hZ (hw _ (List.mem_of_getElem? (i := 21) rfl)))) (mvT hZ (hw _ (List.mem_of_getElem? (i := 21) rfl))) (mvT hZ (hw _ (List.mem_of_getElem? (i := 20) rfl))) (by decide) (backOf (W := 0) (rm4 l Z a0 hw [] b14 b14 (f1 (1 : Int32) (p1 &&& (2147483647 : Int32))) (f1 (1 : Int32) (p1 &&& (2147483647 : Int32))) (f1 (1 : Int32) (p2 &&& (2147483647 : Int32))) (f1 (1 : Int32) (p2 &&& (2147483647 : Int32))) T21.heap n0 Zs36 Ex34 F32 F32 F33 F33) hZ (hw _ (List.mem_of_getElem? (i := 22) rfl)) (hw _ (List.mem_of_getElem? (i := 7) rfl)) (by decide) (by decide)) q38a q38c (g := (mkF m 139 #[.val (.int p1), .val (.int p2), .val (.int p3), .val (.int p4), .val (.int p5), .val (.int (f1 (1 : Int32) (p1 &&& (2147483647 : Int32)))), .val (.int (f1 (1 : Int32) (p2 &&& (2147483647 : Int32)))), .val (.int (f1 (1 : Int32) (p3 &&& (2147483647 : Int32)))), .val (.int (f1 (1 : Int32) (p4 &&& (2147483647 : Int32)))), .val (.ref b14), .val (.ref b20), .val (.int (1 : Int32))] [(.ref b14), (.ref b14)])) rfl (by rw [hml]; rfl) (Steps.refl _) (argsL := [(.ref b14)]) (rest := []) (lenOf pd_0_3 rfl) rfl (by show 2 * 0 + _ ≤ _; exact Nat.le_of_eq rfl) (hb hby at_139) (fun _ _ => ⟨rfl, e37, (by decide : 2 + 0 ≤ _), (by decide : 4 + 0 ≤ _)⟩)
          dsimp only [Pt.U, Pt.locs, Pt.cells, Pt.slots] at X38 l38 y38 z38 st38 hQ38
          subst l38 y38 z38
          obtain ⟨rfl, N38q, e38⟩ := hQ38
          have N38 := Fr.app N37 N38q
          obtain ⟨cq39, kq39, q39a, q39b, q39c⟩ := isOf hZ e38 Ex34
          obtain ⟨_, _, ⟨T39, L39, k39, n39⟩, -, X39, ⟨Lc39, hQ39, l39, y39, z39⟩, st39⟩ := X38.virtualBack hx (y := (⟨"com/example/neat_contract/neatcontract/document/Position", "equals", "(Ljava/lang/Object;)Z"⟩ : MethodName)) (z := (⟨"com/example/neat_contract/neatcontract/document/Position", "equals", "(Ljava/lang/Object;)Z"⟩ : MethodName)) hown (mvT hZ (hw _ (List.mem_of_getElem? (i := 18) rfl))) (mvT hZ (hw _ (List.mem_of_getElem? (i := 19) rfl))) (notFace_of_selects (args := #[]) (mvT hZ (hw _ (List.mem_of_getElem? (i := 21) rfl)))) (mvT hZ (hw _ (List.mem_of_getElem? (i := 21) rfl))) (mvT hZ (hw _ (List.mem_of_getElem? (i := 20) rfl))) (by decide) (backOf (W := 0) (rm104 l Z a0 hw [] b14 T21.heap n0 Zs36 ) hZ (hw _ (List.mem_of_getElem? (i := 22) rfl)) (hw _ (List.mem_of_getElem? (i := 7) rfl)) (by decide) (by decide)) q39a q39c (g := (mkF m 148 #[.val (.int p1), .val (.int p2), .val (.int p3), .val (.int p4), .val (.int p5), .val (.int (f1 (1 : Int32) (p1 &&& (2147483647 : Int32)))), .val (.int (f1 (1 : Int32) (p2 &&& (2147483647 : Int32)))), .val (.int (f1 (1 : Int32) (p3 &&& (2147483647 : Int32)))), .val (.int (f1 (1 : Int32) (p4 &&& (2147483647 : Int32)))), .val (.ref b14), .val (.ref b20), .val (.int (1 : Int32))] [.null, (.ref b14)])) rfl (by rw [hml]; rfl) (Steps.refl _) (argsL := [.null]) (rest := []) (lenOf pd_0_3 rfl) rfl (by show 2 * 0 + _ ≤ _; exact Nat.le_of_eq rfl) (hb hby at_148) (fun _ _ => ⟨rfl, e38, (by decide : 2 + 0 ≤ _), (by decide : 4 + 0 ≤ _)⟩)
          dsimp only [Pt.U, Pt.locs, Pt.cells, Pt.slots] at X39 l39 y39 z39 st39 hQ39
          subst l39 y39 z39
          obtain ⟨rfl, N39q, e39⟩ := hQ39
          have N39 := Fr.app N38 N39q
          obtain ⟨_, _, ⟨T40, L40, k40, n40⟩, -, X40, ⟨Lc40, hQ40, l40, y40, z40⟩, st40⟩ := Jvm.LawKit.callS X39 hx (y := (⟨"java/lang/Integer", "valueOf", "(I)Ljava/lang/Integer;"⟩ : MethodName)) hown (mvT hZ (hw _ (List.mem_of_getElem? (i := 25) rfl))) (mvT hZ (hw _ (List.mem_of_getElem? (i := 26) rfl))) (mvT hZ (hw _ (List.mem_of_getElem? (i := 27) rfl))) (mvT hZ (hw _ (List.mem_of_getElem? (i := 28) rfl))) (by decide) (backOf (W := 1) (rm5 l Z a0 hw [] p1 w_cache cl_w T21.heap n0 Zs36 AR hsz hel Od35 (Sz_high.ext Od35.2) (Sz_cache.ext Od35.2)) hZ (hw _ (List.mem_of_getElem? (i := 28) rfl)) (hw _ (List.mem_of_getElem? (i := 27) rfl)) (by decide) (by decide)) (g := (mkF m 157 #[.val (.int p1), .val (.int p2), .val (.int p3), .val (.int p4), .val (.int p5), .val (.int (f1 (1 : Int32) (p1 &&& (2147483647 : Int32)))), .val (.int (f1 (1 : Int32) (p2 &&& (2147483647 : Int32)))), .val (.int (f1 (1 : Int32) (p3 &&& (2147483647 : Int32)))), .val (.int (f1 (1 : Int32) (p4 &&& (2147483647 : Int32)))), .val (.ref b14), .val (.ref b20), .val (.int (1 : Int32))] [(.int p1), (.ref b14)])) rfl (by rw [hml]; rfl) (argsL := [(.int p1)]) (rest := [(.ref b14)]) (lenOf pd_0_4 rfl) rfl (by show 2 * 0 + _ ≤ _; exact Nat.le_of_eq rfl) (hb hby at_157) (fun _ _ => ⟨rfl, e39, (by decide : 2 + 1 ≤ _), (by decide : 4 + 1 ≤ _)⟩)
          dsimp only [Pt.U, Pt.locs, Pt.cells, Pt.slots] at X40 l40 y40 z40 st40 hQ40
          subst l40 y40 z40
          obtain ⟨r40, rfl, N40q, Kp40, qp40_0⟩ := hQ40
          have N40 := Fr.app N39 N40q
          have F42 := (F32.keep Kp40 nin0)
          have F43 := (F33.keep Kp40 nin0)
          have F44 := (qp21_1.keep Kp40 nin0)
          have F45 := (qp21_2.keep Kp40 nin0)
          have Ex46 := (Ex34.keep Kp40)
          have Ex47 := (qp21_0.keep Kp40)
          have Od48 := (Od35.keep Kp40 all0)
          have Zs49 : n0 ≤ T40.heap.size := (Nat.le_trans Zs36 Kp40.1)
          obtain ⟨cq41, kq41, q41a, q41b, q41c⟩ := isOf hZ rfl Ex46
          obtain ⟨_, _, ⟨T41, L41, k41, n41⟩, -, X41, ⟨Lc41, hQ41, l41, y41, z41⟩, st41⟩ := X40.virtualBack hx (y := (⟨"com/example/neat_contract/neatcontract/document/Position", "equals", "(Ljava/lang/Object;)Z"⟩ : MethodName)) (z := (⟨"com/example/neat_contract/neatcontract/document/Position", "equals", "(Ljava/lang/Object;)Z"⟩ : MethodName)) hown (mvT hZ (hw _ (List.mem_of_getElem? (i := 18) rfl))) (mvT hZ (hw _ (List.mem_of_getElem? (i := 19) rfl))) (notFace_of_selects (args := #[]) (mvT hZ (hw _ (List.mem_of_getElem? (i := 21) rfl)))) (mvT hZ (hw _ (List.mem_of_getElem? (i := 21) rfl))) (mvT hZ (hw _ (List.mem_of_getElem? (i := 20) rfl))) (by decide) (backOf (W := 0) (rm204 l Z a0 hw [] b14 r40 T40.heap n0 Zs49 (own_ni (hw _ (List.mem_of_getElem? (i := 32) rfl)) (hw _ (List.mem_of_getElem? (i := 33) rfl)) (hw _ (List.mem_of_getElem? (i := 34) rfl)) (hw _ (List.mem_of_getElem? (i := 6) rfl)) (by decide) (by decide) (by decide)) qp40_0) hZ (hw _ (List.mem_of_getElem? (i := 22) rfl)) (hw _ (List.mem_of_getElem? (i := 7) rfl)) (by decide) (by decide)) q41a q41c (g := (mkF m 160 #[.val (.int p1), .val (.int p2), .val (.int p3), .val (.int p4), .val (.int p5), .val (.int (f1 (1 : Int32) (p1 &&& (2147483647 : Int32)))), .val (.int (f1 (1 : Int32) (p2 &&& (2147483647 : Int32)))), .val (.int (f1 (1 : Int32) (p3 &&& (2147483647 : Int32)))), .val (.int (f1 (1 : Int32) (p4 &&& (2147483647 : Int32)))), .val (.ref b14), .val (.ref b20), .val (.int (1 : Int32))] [(.ref r40), (.ref b14)])) rfl (by rw [hml]; rfl) (Steps.refl _) (argsL := [(.ref r40)]) (rest := []) (lenOf pd_0_3 rfl) rfl (by show 2 * 0 + _ ≤ _; exact Nat.le_of_eq rfl) (hb hby at_160) (fun _ _ => ⟨rfl, rfl, (by decide : 3 + 0 ≤ _), (by decide : 5 + 0 ≤ _)⟩)
          dsimp only [Pt.U, Pt.locs, Pt.cells, Pt.slots] at X41 l41 y41 z41 st41 hQ41
          subst l41 y41 z41
          obtain ⟨rfl, N41q, e41⟩ := hQ41
          have N41 := Fr.app N40 N41q
          obtain ⟨fs, hr, hrun, hended, hW, hsame⟩ := X41.leave (v := some (.int (1 : Int32))) (fun h => by rw [Bd.returns] at h; cases h) (by first | exact BodyLoose.notSynchronized Bd | exact Body.notSynchronized Bd)
          refine ⟨_, _, pre29 _ ?_, hrun, hended, _, _, rfl, ?_, ⟨_, rfl⟩, hW, hsame.mono (by decide) (by decide)⟩
          · show Steps p.tables e below (T21.setTop (mkF m 101 #[.val (.int p1), .val (.int p2), .val (.int p3), .val (.int p4), .val (.int p5), .val (.int (f1 (1 : Int32) (p1 &&& (2147483647 : Int32)))), .val (.int (f1 (1 : Int32) (p2 &&& (2147483647 : Int32)))), .val (.int (f1 (1 : Int32) (p3 &&& (2147483647 : Int32)))), .val (.int (f1 (1 : Int32) (p4 &&& (2147483647 : Int32)))), .val (.ref b14), .val (.ref b20), .unset] [(.int (f1 (1 : Int32) (p4 &&& (2147483647 : Int32)))), (.int (f1 (1 : Int32) (p2 &&& (2147483647 : Int32))))])) _
            refine XS.icmpNo X21.here hx rfl (hb hby at_101) rfl (teq hc30).2 ?_
            show Steps p.tables e below (T21.setTop (mkF m 104 _ [])) _
            refine XS.iconst X21.here hx rfl (hb hby at_104) ?_
            show Steps p.tables e below (T21.setTop (mkF m 105 _ [(.int (1 : Int32))])) _
            refine XS.goto X21.here hx rfl (pc0 := 105) (pc' := 109) rfl (hb hby at_105) (by decide) (by decide) ?_
            show Steps p.tables e below (T21.setTop (mkF m 109 _ [(.int (1 : Int32))])) _
            refine XS.istore X21.here hx rfl (hb hby at_109) rfl (l' := #[.val (.int p1), .val (.int p2), .val (.int p3), .val (.int p4), .val (.int p5), .val (.int (f1 (1 : Int32) (p1 &&& (2147483647 : Int32)))), .val (.int (f1 (1 : Int32) (p2 &&& (2147483647 : Int32)))), .val (.int (f1 (1 : Int32) (p3 &&& (2147483647 : Int32)))), .val (.int (f1 (1 : Int32) (p4 &&& (2147483647 : Int32)))), .val (.ref b14), .val (.ref b20), .val (.int (1 : Int32))]) rfl ?_
            show Steps p.tables e below (T21.setTop (mkF m 111 _ [])) _
            refine XS.aload X21.here hx rfl (hb hby at_111) rfl rfl ?_
            show Steps p.tables e below (T21.setTop (mkF m 113 _ [(.ref b14)])) _
            refine XS.aload X21.here hx rfl (hb hby at_113) rfl rfl ?_
            show Steps p.tables e below (T21.setTop (mkF m 115 _ [(.ref b20), (.ref b14)])) _
            refine st31.trans ?_
            show Steps p.tables e below (T31.setTop (mkF m 118 _ [(.int (f4 (f1 (1 : Int32) (p1 &&& (2147483647 : Int32))) (f1 (1 : Int32) (p3 &&& (2147483647 : Int32))) (f1 (1 : Int32) (p2 &&& (2147483647 : Int32))) (f1 (1 : Int32) (p4 &&& (2147483647 : Int32)))))])) _
            refine XS.iload X31.here hx rfl (hb hby at_118) rfl ?_
            show Steps p.tables e below (T31.setTop (mkF m 120 _ [(.int (1 : Int32)), (.int (f4 (f1 (1 : Int32) (p1 &&& (2147483647 : Int32))) (f1 (1 : Int32) (p3 &&& (2147483647 : Int32))) (f1 (1 : Int32) (p2 &&& (2147483647 : Int32))) (f1 (1 : Int32) (p4 &&& (2147483647 : Int32)))))])) _
            refine XS.icmpNo X31.here hx rfl (hb hby at_120) rfl (teq (by simp [f4, *])).2 ?_
            show Steps p.tables e below (T31.setTop (mkF m 123 _ [])) _
            refine XS.aload X31.here hx rfl (hb hby at_123) rfl rfl ?_
            show Steps p.tables e below (T31.setTop (mkF m 125 _ [(.ref b20)])) _
            refine XS.aload X31.here hx rfl (hb hby at_125) rfl rfl ?_
            show Steps p.tables e below (T31.setTop (mkF m 127 _ [(.ref b14), (.ref b20)])) _
            refine st37.trans ?_
            show Steps p.tables e below (T37.setTop (mkF m 130 _ [(.int (f4 (f1 (1 : Int32) (p3 &&& (2147483647 : Int32))) (f1 (1 : Int32) (p1 &&& (2147483647 : Int32))) (f1 (1 : Int32) (p4 &&& (2147483647 : Int32))) (f1 (1 : Int32) (p2 &&& (2147483647 : Int32)))))])) _
            refine XS.iload X37.here hx rfl (hb hby at_130) rfl ?_
            show Steps p.tables e below (T37.setTop (mkF m 132 _ [(.int (1 : Int32)), (.int (f4 (f1 (1 : Int32) (p3 &&& (2147483647 : Int32))) (f1 (1 : Int32) (p1 &&& (2147483647 : Int32))) (f1 (1 : Int32) (p4 &&& (2147483647 : Int32))) (f1 (1 : Int32) (p2 &&& (2147483647 : Int32)))))])) _
            refine XS.icmpNo X37.here hx rfl (hb hby at_132) rfl (teq (by rw [own_sym]; simp [f4, *])).2 ?_
            show Steps p.tables e below (T37.setTop (mkF m 135 _ [])) _
            refine XS.aload X37.here hx rfl (hb hby at_135) rfl rfl ?_
            show Steps p.tables e below (T37.setTop (mkF m 137 _ [(.ref b14)])) _
            refine XS.aload X37.here hx rfl (hb hby at_137) rfl rfl ?_
            show Steps p.tables e below (T37.setTop (mkF m 139 _ [(.ref b14), (.ref b14)])) _
            refine st38.trans ?_
            show Steps p.tables e below (T38.setTop (mkF m 142 _ [(.int (f4 (f1 (1 : Int32) (p1 &&& (2147483647 : Int32))) (f1 (1 : Int32) (p1 &&& (2147483647 : Int32))) (f1 (1 : Int32) (p2 &&& (2147483647 : Int32))) (f1 (1 : Int32) (p2 &&& (2147483647 : Int32)))))])) _
            refine XS.ifNo X38.here hx rfl (hb hby at_142) rfl ((if0 _ _).trans (feq (by simp [f4])).1) ?_
            show Steps p.tables e below (T38.setTop (mkF m 145 _ [])) _
            refine XS.aload X38.here hx rfl (hb hby at_145) rfl rfl ?_
            show Steps p.tables e below (T38.setTop (mkF m 147 _ [(.ref b14)])) _
            refine XS.aconstNull X38.here hx rfl (hb hby at_147) ?_
            show Steps p.tables e below (T38.setTop (mkF m 148 _ [.null, (.ref b14)])) _
            refine st39.trans ?_
            show Steps p.tables e below (T39.setTop (mkF m 151 _ [(.int (0 : Int32))])) _
            refine XS.ifNo X39.here hx rfl (hb hby at_151) rfl ((if0 _ _).trans (teq (by decide)).2) ?_
            show Steps p.tables e below (T39.setTop (mkF m 154 _ [])) _
            refine XS.aload X39.here hx rfl (hb hby at_154) rfl rfl ?_
            show Steps p.tables e below (T39.setTop (mkF m 156 _ [(.ref b14)])) _
            refine XS.iloadN X39.here hx rfl (hb hby at_156) rfl ?_
            show Steps p.tables e below (T39.setTop (mkF m 157 _ [(.int p1), (.ref b14)])) _
            refine st40 _ ?_
            show Steps p.tables e below (T40.setTop (mkF m 160 _ [(.ref r40), (.ref b14)])) _
            refine st41.trans ?_
            show Steps p.tables e below (T41.setTop (mkF m 163 _ [(.int (0 : Int32))])) _
            refine XS.ifNo X41.here hx rfl (hb hby at_163) rfl ((if0 _ _).trans (teq (by decide)).2) ?_
            show Steps p.tables e below (T41.setTop (mkF m 166 _ [])) _
            refine XS.iconst X41.here hx rfl (hb hby at_166) ?_
            show Steps p.tables e below (T41.setTop (mkF m 167 _ [(.int (1 : Int32))])) _
            refine XS.goto X41.here hx rfl (pc0 := 167) (pc' := 171) rfl (hb hby at_167) (by decide) (by decide) ?_
            show Steps p.tables e below (T41.setTop (mkF m 171 #[.val (.int p1), .val (.int p2), .val (.int p3), .val (.int p4), .val (.int p5), .val (.int (f1 (1 : Int32) (p1 &&& (2147483647 : Int32)))), .val (.int (f1 (1 : Int32) (p2 &&& (2147483647 : Int32)))), .val (.int (f1 (1 : Int32) (p3 &&& (2147483647 : Int32)))), .val (.int (f1 (1 : Int32) (p4 &&& (2147483647 : Int32)))), .val (.ref b14), .val (.ref b20), .val (.int (1 : Int32))] [(.int (1 : Int32))])) _
            exact retN X41 hx (t := .boolean) Bd.returns (by simp) (hb hby at_171) hr
          · show Q0 Z p1 p2 p3 p4 p5 w_cache cl_w h0 n0 _ T41.heap _
            rw [e41]
            exact ⟨congrArg (fun z => some (Value.int z)) (by rw [f0, if_pos hc9, if_pos hc12, if_pos hc28, if_pos hc30] : f0 p1 p2 p3 p4 p5 w_cache cl_w = (1 : Int32)).symm, N41⟩
        · skip
          have F51 := (F22.keep Kp21 (ninS ne_b14_b20 nin0))
          have F52 := (F23.keep Kp21 (ninS ne_b14_b20 nin0))
          have Ex53 := (Ex24.keep Kp21)
          have Od54 := (Od25.keep Kp21 (allS g_b20 all0))
          have Zs55 : n0 ≤ T21.heap.size := (Nat.le_trans Zs26 Kp21.1)
          obtain ⟨cq50, kq50, q50a, q50b, q50c⟩ := isOf hZ rfl Ex53
          obtain ⟨_, _, ⟨T50, L50, k50, n50⟩, -, X50, ⟨Lc50, hQ50, l50, y50, z50⟩, st50⟩ := X21.virtualBack hx (y := (⟨"com/example/neat_contract/neatcontract/document/Position", "equals", "(Ljava/lang/Object;)Z"⟩ : MethodName)) (z := (⟨"com/example/neat_contract/neatcontract/document/Position", "equals", "(Ljava/lang/Object;)Z"⟩ : MethodName)) hown (mvT hZ (hw _ (List.mem_of_getElem? (i := 18) rfl))) (mvT hZ (hw _ (List.mem_of_getElem? (i := 19) rfl))) (notFace_of_selects (args := #[]) (mvT hZ (hw _ (List.mem_of_getElem? (i := 21) rfl)))) (mvT hZ (hw _ (List.mem_of_getElem? (i := 21) rfl))) (mvT hZ (hw _ (List.mem_of_getElem? (i := 20) rfl))) (by decide) (backOf (W := 0) (rm4 l Z a0 hw [] b14 b20 (f1 (1 : Int32) (p1 &&& (2147483647 : Int32))) (f1 (1 : Int32) (p3 &&& (2147483647 : Int32))) (f1 (1 : Int32) (p2 &&& (2147483647 : Int32))) (f1 (1 : Int32) (p4 &&& (2147483647 : Int32))) T21.heap n0 Zs55 qp21_0 F51 qp21_1 F52 qp21_2) hZ (hw _ (List.mem_of_getElem? (i := 22) rfl)) (hw _ (List.mem_of_getElem? (i := 7) rfl)) (by decide) (by decide)) q50a q50c (g := (mkF m 115 #[.val (.int p1), .val (.int p2), .val (.int p3), .val (.int p4), .val (.int p5), .val (.int (f1 (1 : Int32) (p1 &&& (2147483647 : Int32)))), .val (.int (f1 (1 : Int32) (p2 &&& (2147483647 : Int32)))), .val (.int (f1 (1 : Int32) (p3 &&& (2147483647 : Int32)))), .val (.int (f1 (1 : Int32) (p4 &&& (2147483647 : Int32)))), .val (.ref b14), .val (.ref b20), .val (.int (0 : Int32))] [(.ref b20), (.ref b14)])) rfl (by rw [hml]; rfl) (Steps.refl _) (argsL := [(.ref b20)]) (rest := []) (lenOf pd_0_3 rfl) rfl (by show 2 * 0 + _ ≤ _; exact Nat.le_of_eq rfl) (hb hby at_115) (fun _ _ => ⟨rfl, rfl, (by decide : 2 + 0 ≤ _), (by decide : 4 + 0 ≤ _)⟩)
          dsimp only [Pt.U, Pt.locs, Pt.cells, Pt.slots] at X50 l50 y50 z50 st50 hQ50
          subst l50 y50 z50
          obtain ⟨rfl, N50q, e50⟩ := hQ50
          have N50 := Fr.app N21 N50q
          obtain ⟨cq56, kq56, q56a, q56b, q56c⟩ := isOf hZ e50 qp21_0
          obtain ⟨_, _, ⟨T56, L56, k56, n56⟩, -, X56, ⟨Lc56, hQ56, l56, y56, z56⟩, st56⟩ := X50.virtualBack hx (y := (⟨"com/example/neat_contract/neatcontract/document/Position", "equals", "(Ljava/lang/Object;)Z"⟩ : MethodName)) (z := (⟨"com/example/neat_contract/neatcontract/document/Position", "equals", "(Ljava/lang/Object;)Z"⟩ : MethodName)) hown (mvT hZ (hw _ (List.mem_of_getElem? (i := 18) rfl))) (mvT hZ (hw _ (List.mem_of_getElem? (i := 19) rfl))) (notFace_of_selects (args := #[]) (mvT hZ (hw _ (List.mem_of_getElem? (i := 21) rfl)))) (mvT hZ (hw _ (List.mem_of_getElem? (i := 21) rfl))) (mvT hZ (hw _ (List.mem_of_getElem? (i := 20) rfl))) (by decide) (backOf (W := 0) (rm4 l Z a0 hw [] b20 b14 (f1 (1 : Int32) (p3 &&& (2147483647 : Int32))) (f1 (1 : Int32) (p1 &&& (2147483647 : Int32))) (f1 (1 : Int32) (p4 &&& (2147483647 : Int32))) (f1 (1 : Int32) (p2 &&& (2147483647 : Int32))) T21.heap n0 Zs55 Ex53 qp21_1 F51 qp21_2 F52) hZ (hw _ (List.mem_of_getElem? (i := 22) rfl)) (hw _ (List.mem_of_getElem? (i := 7) rfl)) (by decide) (by decide)) q56a q56c (g := (mkF m 127 #[.val (.int p1), .val (.int p2), .val (.int p3), .val (.int p4), .val (.int p5), .val (.int (f1 (1 : Int32) (p1 &&& (2147483647 : Int32)))), .val (.int (f1 (1 : Int32) (p2 &&& (2147483647 : Int32)))), .val (.int (f1 (1 : Int32) (p3 &&& (2147483647 : Int32)))), .val (.int (f1 (1 : Int32) (p4 &&& (2147483647 : Int32)))), .val (.ref b14), .val (.ref b20), .val (.int (0 : Int32))] [(.ref b14), (.ref b20)])) rfl (by rw [hml]; rfl) (Steps.refl _) (argsL := [(.ref b14)]) (rest := []) (lenOf pd_0_3 rfl) rfl (by show 2 * 0 + _ ≤ _; exact Nat.le_of_eq rfl) (hb hby at_127) (fun _ _ => ⟨rfl, e50, (by decide : 2 + 0 ≤ _), (by decide : 4 + 0 ≤ _)⟩)
          dsimp only [Pt.U, Pt.locs, Pt.cells, Pt.slots] at X56 l56 y56 z56 st56 hQ56
          subst l56 y56 z56
          obtain ⟨rfl, N56q, e56⟩ := hQ56
          have N56 := Fr.app N50 N56q
          obtain ⟨cq57, kq57, q57a, q57b, q57c⟩ := isOf hZ e56 Ex53
          obtain ⟨_, _, ⟨T57, L57, k57, n57⟩, -, X57, ⟨Lc57, hQ57, l57, y57, z57⟩, st57⟩ := X56.virtualBack hx (y := (⟨"com/example/neat_contract/neatcontract/document/Position", "equals", "(Ljava/lang/Object;)Z"⟩ : MethodName)) (z := (⟨"com/example/neat_contract/neatcontract/document/Position", "equals", "(Ljava/lang/Object;)Z"⟩ : MethodName)) hown (mvT hZ (hw _ (List.mem_of_getElem? (i := 18) rfl))) (mvT hZ (hw _ (List.mem_of_getElem? (i := 19) rfl))) (notFace_of_selects (args := #[]) (mvT hZ (hw _ (List.mem_of_getElem? (i := 21) rfl)))) (mvT hZ (hw _ (List.mem_of_getElem? (i := 21) rfl))) (mvT hZ (hw _ (List.mem_of_getElem? (i := 20) rfl))) (by decide) (backOf (W := 0) (rm4 l Z a0 hw [] b14 b14 (f1 (1 : Int32) (p1 &&& (2147483647 : Int32))) (f1 (1 : Int32) (p1 &&& (2147483647 : Int32))) (f1 (1 : Int32) (p2 &&& (2147483647 : Int32))) (f1 (1 : Int32) (p2 &&& (2147483647 : Int32))) T21.heap n0 Zs55 Ex53 F51 F51 F52 F52) hZ (hw _ (List.mem_of_getElem? (i := 22) rfl)) (hw _ (List.mem_of_getElem? (i := 7) rfl)) (by decide) (by decide)) q57a q57c (g := (mkF m 139 #[.val (.int p1), .val (.int p2), .val (.int p3), .val (.int p4), .val (.int p5), .val (.int (f1 (1 : Int32) (p1 &&& (2147483647 : Int32)))), .val (.int (f1 (1 : Int32) (p2 &&& (2147483647 : Int32)))), .val (.int (f1 (1 : Int32) (p3 &&& (2147483647 : Int32)))), .val (.int (f1 (1 : Int32) (p4 &&& (2147483647 : Int32)))), .val (.ref b14), .val (.ref b20), .val (.int (0 : Int32))] [(.ref b14), (.ref b14)])) rfl (by rw [hml]; rfl) (Steps.refl _) (argsL := [(.ref b14)]) (rest := []) (lenOf pd_0_3 rfl) rfl (by show 2 * 0 + _ ≤ _; exact Nat.le_of_eq rfl) (hb hby at_139) (fun _ _ => ⟨rfl, e56, (by decide : 2 + 0 ≤ _), (by decide : 4 + 0 ≤ _)⟩)
          dsimp only [Pt.U, Pt.locs, Pt.cells, Pt.slots] at X57 l57 y57 z57 st57 hQ57
          subst l57 y57 z57
          obtain ⟨rfl, N57q, e57⟩ := hQ57
          have N57 := Fr.app N56 N57q
          obtain ⟨cq58, kq58, q58a, q58b, q58c⟩ := isOf hZ e57 Ex53
          obtain ⟨_, _, ⟨T58, L58, k58, n58⟩, -, X58, ⟨Lc58, hQ58, l58, y58, z58⟩, st58⟩ := X57.virtualBack hx (y := (⟨"com/example/neat_contract/neatcontract/document/Position", "equals", "(Ljava/lang/Object;)Z"⟩ : MethodName)) (z := (⟨"com/example/neat_contract/neatcontract/document/Position", "equals", "(Ljava/lang/Object;)Z"⟩ : MethodName)) hown (mvT hZ (hw _ (List.mem_of_getElem? (i := 18) rfl))) (mvT hZ (hw _ (List.mem_of_getElem? (i := 19) rfl))) (notFace_of_selects (args := #[]) (mvT hZ (hw _ (List.mem_of_getElem? (i := 21) rfl)))) (mvT hZ (hw _ (List.mem_of_getElem? (i := 21) rfl))) (mvT hZ (hw _ (List.mem_of_getElem? (i := 20) rfl))) (by decide) (backOf (W := 0) (rm104 l Z a0 hw [] b14 T21.heap n0 Zs55 ) hZ (hw _ (List.mem_of_getElem? (i := 22) rfl)) (hw _ (List.mem_of_getElem? (i := 7) rfl)) (by decide) (by decide)) q58a q58c (g := (mkF m 148 #[.val (.int p1), .val (.int p2), .val (.int p3), .val (.int p4), .val (.int p5), .val (.int (f1 (1 : Int32) (p1 &&& (2147483647 : Int32)))), .val (.int (f1 (1 : Int32) (p2 &&& (2147483647 : Int32)))), .val (.int (f1 (1 : Int32) (p3 &&& (2147483647 : Int32)))), .val (.int (f1 (1 : Int32) (p4 &&& (2147483647 : Int32)))), .val (.ref b14), .val (.ref b20), .val (.int (0 : Int32))] [.null, (.ref b14)])) rfl (by rw [hml]; rfl) (Steps.refl _) (argsL := [.null]) (rest := []) (lenOf pd_0_3 rfl) rfl (by show 2 * 0 + _ ≤ _; exact Nat.le_of_eq rfl) (hb hby at_148) (fun _ _ => ⟨rfl, e57, (by decide : 2 + 0 ≤ _), (by decide : 4 + 0 ≤ _)⟩)
          dsimp only [Pt.U, Pt.locs, Pt.cells, Pt.slots] at X58 l58 y58 z58 st58 hQ58
          subst l58 y58 z58
          obtain ⟨rfl, N58q, e58⟩ := hQ58
          have N58 := Fr.app N57 N58q
          obtain ⟨_, _, ⟨T59, L59, k59, n59⟩, -, X59, ⟨Lc59, hQ59, l59, y59, z59⟩, st59⟩ := Jvm.LawKit.callS X58 hx (y := (⟨"java/lang/Integer", "valueOf", "(I)Ljava/lang/Integer;"⟩ : MethodName)) hown (mvT hZ (hw _ (List.mem_of_getElem? (i := 25) rfl))) (mvT hZ (hw _ (List.mem_of_getElem? (i := 26) rfl))) (mvT hZ (hw _ (List.mem_of_getElem? (i := 27) rfl))) (mvT hZ (hw _ (List.mem_of_getElem? (i := 28) rfl))) (by decide) (backOf (W := 1) (rm5 l Z a0 hw [] p1 w_cache cl_w T21.heap n0 Zs55 AR hsz hel Od54 (Sz_high.ext Od54.2) (Sz_cache.ext Od54.2)) hZ (hw _ (List.mem_of_getElem? (i := 28) rfl)) (hw _ (List.mem_of_getElem? (i := 27) rfl)) (by decide) (by decide)) (g := (mkF m 157 #[.val (.int p1), .val (.int p2), .val (.int p3), .val (.int p4), .val (.int p5), .val (.int (f1 (1 : Int32) (p1 &&& (2147483647 : Int32)))), .val (.int (f1 (1 : Int32) (p2 &&& (2147483647 : Int32)))), .val (.int (f1 (1 : Int32) (p3 &&& (2147483647 : Int32)))), .val (.int (f1 (1 : Int32) (p4 &&& (2147483647 : Int32)))), .val (.ref b14), .val (.ref b20), .val (.int (0 : Int32))] [(.int p1), (.ref b14)])) rfl (by rw [hml]; rfl) (argsL := [(.int p1)]) (rest := [(.ref b14)]) (lenOf pd_0_4 rfl) rfl (by show 2 * 0 + _ ≤ _; exact Nat.le_of_eq rfl) (hb hby at_157) (fun _ _ => ⟨rfl, e58, (by decide : 2 + 1 ≤ _), (by decide : 4 + 1 ≤ _)⟩)
          dsimp only [Pt.U, Pt.locs, Pt.cells, Pt.slots] at X59 l59 y59 z59 st59 hQ59
          subst l59 y59 z59
          obtain ⟨r59, rfl, N59q, Kp59, qp59_0⟩ := hQ59
          have N59 := Fr.app N58 N59q
          have F61 := (F51.keep Kp59 nin0)
          have F62 := (F52.keep Kp59 nin0)
          have F63 := (qp21_1.keep Kp59 nin0)
          have F64 := (qp21_2.keep Kp59 nin0)
          have Ex65 := (Ex53.keep Kp59)
          have Ex66 := (qp21_0.keep Kp59)
          have Od67 := (Od54.keep Kp59 all0)
          have Zs68 : n0 ≤ T59.heap.size := (Nat.le_trans Zs55 Kp59.1)
          obtain ⟨cq60, kq60, q60a, q60b, q60c⟩ := isOf hZ rfl Ex65
          obtain ⟨_, _, ⟨T60, L60, k60, n60⟩, -, X60, ⟨Lc60, hQ60, l60, y60, z60⟩, st60⟩ := X59.virtualBack hx (y := (⟨"com/example/neat_contract/neatcontract/document/Position", "equals", "(Ljava/lang/Object;)Z"⟩ : MethodName)) (z := (⟨"com/example/neat_contract/neatcontract/document/Position", "equals", "(Ljava/lang/Object;)Z"⟩ : MethodName)) hown (mvT hZ (hw _ (List.mem_of_getElem? (i := 18) rfl))) (mvT hZ (hw _ (List.mem_of_getElem? (i := 19) rfl))) (notFace_of_selects (args := #[]) (mvT hZ (hw _ (List.mem_of_getElem? (i := 21) rfl)))) (mvT hZ (hw _ (List.mem_of_getElem? (i := 21) rfl))) (mvT hZ (hw _ (List.mem_of_getElem? (i := 20) rfl))) (by decide) (backOf (W := 0) (rm204 l Z a0 hw [] b14 r59 T59.heap n0 Zs68 (own_ni (hw _ (List.mem_of_getElem? (i := 32) rfl)) (hw _ (List.mem_of_getElem? (i := 33) rfl)) (hw _ (List.mem_of_getElem? (i := 34) rfl)) (hw _ (List.mem_of_getElem? (i := 6) rfl)) (by decide) (by decide) (by decide)) qp59_0) hZ (hw _ (List.mem_of_getElem? (i := 22) rfl)) (hw _ (List.mem_of_getElem? (i := 7) rfl)) (by decide) (by decide)) q60a q60c (g := (mkF m 160 #[.val (.int p1), .val (.int p2), .val (.int p3), .val (.int p4), .val (.int p5), .val (.int (f1 (1 : Int32) (p1 &&& (2147483647 : Int32)))), .val (.int (f1 (1 : Int32) (p2 &&& (2147483647 : Int32)))), .val (.int (f1 (1 : Int32) (p3 &&& (2147483647 : Int32)))), .val (.int (f1 (1 : Int32) (p4 &&& (2147483647 : Int32)))), .val (.ref b14), .val (.ref b20), .val (.int (0 : Int32))] [(.ref r59), (.ref b14)])) rfl (by rw [hml]; rfl) (Steps.refl _) (argsL := [(.ref r59)]) (rest := []) (lenOf pd_0_3 rfl) rfl (by show 2 * 0 + _ ≤ _; exact Nat.le_of_eq rfl) (hb hby at_160) (fun _ _ => ⟨rfl, rfl, (by decide : 3 + 0 ≤ _), (by decide : 5 + 0 ≤ _)⟩)
          dsimp only [Pt.U, Pt.locs, Pt.cells, Pt.slots] at X60 l60 y60 z60 st60 hQ60
          subst l60 y60 z60
          obtain ⟨rfl, N60q, e60⟩ := hQ60
          have N60 := Fr.app N59 N60q
          obtain ⟨fs, hr, hrun, hended, hW, hsame⟩ := X60.leave (v := some (.int (1 : Int32))) (fun h => by rw [Bd.returns] at h; cases h) (by first | exact BodyLoose.notSynchronized Bd | exact Body.notSynchronized Bd)
          refine ⟨_, _, pre29 _ ?_, hrun, hended, _, _, rfl, ?_, ⟨_, rfl⟩, hW, hsame.mono (by decide) (by decide)⟩
          · show Steps p.tables e below (T21.setTop (mkF m 101 #[.val (.int p1), .val (.int p2), .val (.int p3), .val (.int p4), .val (.int p5), .val (.int (f1 (1 : Int32) (p1 &&& (2147483647 : Int32)))), .val (.int (f1 (1 : Int32) (p2 &&& (2147483647 : Int32)))), .val (.int (f1 (1 : Int32) (p3 &&& (2147483647 : Int32)))), .val (.int (f1 (1 : Int32) (p4 &&& (2147483647 : Int32)))), .val (.ref b14), .val (.ref b20), .unset] [(.int (f1 (1 : Int32) (p4 &&& (2147483647 : Int32)))), (.int (f1 (1 : Int32) (p2 &&& (2147483647 : Int32))))])) _
            refine XS.icmpYes X21.here hx rfl (pc0 := 101) (pc' := 108) rfl (hb hby at_101) rfl (feq hc30).2 (by decide) (by decide) ?_
            show Steps p.tables e below (T21.setTop (mkF m 108 _ [])) _
            refine XS.iconst X21.here hx rfl (hb hby at_108) ?_
            show Steps p.tables e below (T21.setTop (mkF m 109 _ [(.int (0 : Int32))])) _
            refine XS.istore X21.here hx rfl (hb hby at_109) rfl (l' := #[.val (.int p1), .val (.int p2), .val (.int p3), .val (.int p4), .val (.int p5), .val (.int (f1 (1 : Int32) (p1 &&& (2147483647 : Int32)))), .val (.int (f1 (1 : Int32) (p2 &&& (2147483647 : Int32)))), .val (.int (f1 (1 : Int32) (p3 &&& (2147483647 : Int32)))), .val (.int (f1 (1 : Int32) (p4 &&& (2147483647 : Int32)))), .val (.ref b14), .val (.ref b20), .val (.int (0 : Int32))]) rfl ?_
            show Steps p.tables e below (T21.setTop (mkF m 111 _ [])) _
            refine XS.aload X21.here hx rfl (hb hby at_111) rfl rfl ?_
            show Steps p.tables e below (T21.setTop (mkF m 113 _ [(.ref b14)])) _
            refine XS.aload X21.here hx rfl (hb hby at_113) rfl rfl ?_
            show Steps p.tables e below (T21.setTop (mkF m 115 _ [(.ref b20), (.ref b14)])) _
            refine st50.trans ?_
            show Steps p.tables e below (T50.setTop (mkF m 118 _ [(.int (f4 (f1 (1 : Int32) (p1 &&& (2147483647 : Int32))) (f1 (1 : Int32) (p3 &&& (2147483647 : Int32))) (f1 (1 : Int32) (p2 &&& (2147483647 : Int32))) (f1 (1 : Int32) (p4 &&& (2147483647 : Int32)))))])) _
            refine XS.iload X50.here hx rfl (hb hby at_118) rfl ?_
            show Steps p.tables e below (T50.setTop (mkF m 120 _ [(.int (0 : Int32)), (.int (f4 (f1 (1 : Int32) (p1 &&& (2147483647 : Int32))) (f1 (1 : Int32) (p3 &&& (2147483647 : Int32))) (f1 (1 : Int32) (p2 &&& (2147483647 : Int32))) (f1 (1 : Int32) (p4 &&& (2147483647 : Int32)))))])) _
            refine XS.icmpNo X50.here hx rfl (hb hby at_120) rfl (teq (by simp [f4, *])).2 ?_
            show Steps p.tables e below (T50.setTop (mkF m 123 _ [])) _
            refine XS.aload X50.here hx rfl (hb hby at_123) rfl rfl ?_
            show Steps p.tables e below (T50.setTop (mkF m 125 _ [(.ref b20)])) _
            refine XS.aload X50.here hx rfl (hb hby at_125) rfl rfl ?_
            show Steps p.tables e below (T50.setTop (mkF m 127 _ [(.ref b14), (.ref b20)])) _
            refine st56.trans ?_
            show Steps p.tables e below (T56.setTop (mkF m 130 _ [(.int (f4 (f1 (1 : Int32) (p3 &&& (2147483647 : Int32))) (f1 (1 : Int32) (p1 &&& (2147483647 : Int32))) (f1 (1 : Int32) (p4 &&& (2147483647 : Int32))) (f1 (1 : Int32) (p2 &&& (2147483647 : Int32)))))])) _
            refine XS.iload X56.here hx rfl (hb hby at_130) rfl ?_
            show Steps p.tables e below (T56.setTop (mkF m 132 _ [(.int (0 : Int32)), (.int (f4 (f1 (1 : Int32) (p3 &&& (2147483647 : Int32))) (f1 (1 : Int32) (p1 &&& (2147483647 : Int32))) (f1 (1 : Int32) (p4 &&& (2147483647 : Int32))) (f1 (1 : Int32) (p2 &&& (2147483647 : Int32)))))])) _
            refine XS.icmpNo X56.here hx rfl (hb hby at_132) rfl (teq (by rw [own_sym]; simp [f4, *])).2 ?_
            show Steps p.tables e below (T56.setTop (mkF m 135 _ [])) _
            refine XS.aload X56.here hx rfl (hb hby at_135) rfl rfl ?_
            show Steps p.tables e below (T56.setTop (mkF m 137 _ [(.ref b14)])) _
            refine XS.aload X56.here hx rfl (hb hby at_137) rfl rfl ?_
            show Steps p.tables e below (T56.setTop (mkF m 139 _ [(.ref b14), (.ref b14)])) _
            refine st57.trans ?_
            show Steps p.tables e below (T57.setTop (mkF m 142 _ [(.int (f4 (f1 (1 : Int32) (p1 &&& (2147483647 : Int32))) (f1 (1 : Int32) (p1 &&& (2147483647 : Int32))) (f1 (1 : Int32) (p2 &&& (2147483647 : Int32))) (f1 (1 : Int32) (p2 &&& (2147483647 : Int32)))))])) _
            refine XS.ifNo X57.here hx rfl (hb hby at_142) rfl ((if0 _ _).trans (feq (by simp [f4])).1) ?_
            show Steps p.tables e below (T57.setTop (mkF m 145 _ [])) _
            refine XS.aload X57.here hx rfl (hb hby at_145) rfl rfl ?_
            show Steps p.tables e below (T57.setTop (mkF m 147 _ [(.ref b14)])) _
            refine XS.aconstNull X57.here hx rfl (hb hby at_147) ?_
            show Steps p.tables e below (T57.setTop (mkF m 148 _ [.null, (.ref b14)])) _
            refine st58.trans ?_
            show Steps p.tables e below (T58.setTop (mkF m 151 _ [(.int (0 : Int32))])) _
            refine XS.ifNo X58.here hx rfl (hb hby at_151) rfl ((if0 _ _).trans (teq (by decide)).2) ?_
            show Steps p.tables e below (T58.setTop (mkF m 154 _ [])) _
            refine XS.aload X58.here hx rfl (hb hby at_154) rfl rfl ?_
            show Steps p.tables e below (T58.setTop (mkF m 156 _ [(.ref b14)])) _
            refine XS.iloadN X58.here hx rfl (hb hby at_156) rfl ?_
            show Steps p.tables e below (T58.setTop (mkF m 157 _ [(.int p1), (.ref b14)])) _
            refine st59 _ ?_
            show Steps p.tables e below (T59.setTop (mkF m 160 _ [(.ref r59), (.ref b14)])) _
            refine st60.trans ?_
            show Steps p.tables e below (T60.setTop (mkF m 163 _ [(.int (0 : Int32))])) _
            refine XS.ifNo X60.here hx rfl (hb hby at_163) rfl ((if0 _ _).trans (teq (by decide)).2) ?_
            show Steps p.tables e below (T60.setTop (mkF m 166 _ [])) _
            refine XS.iconst X60.here hx rfl (hb hby at_166) ?_
            show Steps p.tables e below (T60.setTop (mkF m 167 _ [(.int (1 : Int32))])) _
            refine XS.goto X60.here hx rfl (pc0 := 167) (pc' := 171) rfl (hb hby at_167) (by decide) (by decide) ?_
            show Steps p.tables e below (T60.setTop (mkF m 171 #[.val (.int p1), .val (.int p2), .val (.int p3), .val (.int p4), .val (.int p5), .val (.int (f1 (1 : Int32) (p1 &&& (2147483647 : Int32)))), .val (.int (f1 (1 : Int32) (p2 &&& (2147483647 : Int32)))), .val (.int (f1 (1 : Int32) (p3 &&& (2147483647 : Int32)))), .val (.int (f1 (1 : Int32) (p4 &&& (2147483647 : Int32)))), .val (.ref b14), .val (.ref b20), .val (.int (0 : Int32))] [(.int (1 : Int32))])) _
            exact retN X60 hx (t := .boolean) Bd.returns (by simp) (hb hby at_171) hr
          · show Q0 Z p1 p2 p3 p4 p5 w_cache cl_w h0 n0 _ T60.heap _
            rw [e60]
            exact ⟨congrArg (fun z => some (Value.int z)) (by rw [f0, if_pos hc9, if_pos hc12, if_pos hc28, if_neg hc30] : f0 p1 p2 p3 p4 p5 w_cache cl_w = (1 : Int32)).symm, N60⟩
      · skip
        have F70 := (F22.keep Kp21 (ninS ne_b14_b20 nin0))
        have F71 := (F23.keep Kp21 (ninS ne_b14_b20 nin0))
        have Ex72 := (Ex24.keep Kp21)
        have Od73 := (Od25.keep Kp21 (allS g_b20 all0))
        have Zs74 : n0 ≤ T21.heap.size := (Nat.le_trans Zs26 Kp21.1)
        obtain ⟨cq69, kq69, q69a, q69b, q69c⟩ := isOf hZ rfl Ex72
        obtain ⟨_, _, ⟨T69, L69, k69, n69⟩, -, X69, ⟨Lc69, hQ69, l69, y69, z69⟩, st69⟩ := X21.virtualBack hx (y := (⟨"com/example/neat_contract/neatcontract/document/Position", "equals", "(Ljava/lang/Object;)Z"⟩ : MethodName)) (z := (⟨"com/example/neat_contract/neatcontract/document/Position", "equals", "(Ljava/lang/Object;)Z"⟩ : MethodName)) hown (mvT hZ (hw _ (List.mem_of_getElem? (i := 18) rfl))) (mvT hZ (hw _ (List.mem_of_getElem? (i := 19) rfl))) (notFace_of_selects (args := #[]) (mvT hZ (hw _ (List.mem_of_getElem? (i := 21) rfl)))) (mvT hZ (hw _ (List.mem_of_getElem? (i := 21) rfl))) (mvT hZ (hw _ (List.mem_of_getElem? (i := 20) rfl))) (by decide) (backOf (W := 0) (rm4 l Z a0 hw [] b14 b20 (f1 (1 : Int32) (p1 &&& (2147483647 : Int32))) (f1 (1 : Int32) (p3 &&& (2147483647 : Int32))) (f1 (1 : Int32) (p2 &&& (2147483647 : Int32))) (f1 (1 : Int32) (p4 &&& (2147483647 : Int32))) T21.heap n0 Zs74 qp21_0 F70 qp21_1 F71 qp21_2) hZ (hw _ (List.mem_of_getElem? (i := 22) rfl)) (hw _ (List.mem_of_getElem? (i := 7) rfl)) (by decide) (by decide)) q69a q69c (g := (mkF m 115 #[.val (.int p1), .val (.int p2), .val (.int p3), .val (.int p4), .val (.int p5), .val (.int (f1 (1 : Int32) (p1 &&& (2147483647 : Int32)))), .val (.int (f1 (1 : Int32) (p2 &&& (2147483647 : Int32)))), .val (.int (f1 (1 : Int32) (p3 &&& (2147483647 : Int32)))), .val (.int (f1 (1 : Int32) (p4 &&& (2147483647 : Int32)))), .val (.ref b14), .val (.ref b20), .val (.int (0 : Int32))] [(.ref b20), (.ref b14)])) rfl (by rw [hml]; rfl) (Steps.refl _) (argsL := [(.ref b20)]) (rest := []) (lenOf pd_0_3 rfl) rfl (by show 2 * 0 + _ ≤ _; exact Nat.le_of_eq rfl) (hb hby at_115) (fun _ _ => ⟨rfl, rfl, (by decide : 2 + 0 ≤ _), (by decide : 4 + 0 ≤ _)⟩)
        dsimp only [Pt.U, Pt.locs, Pt.cells, Pt.slots] at X69 l69 y69 z69 st69 hQ69
        subst l69 y69 z69
        obtain ⟨rfl, N69q, e69⟩ := hQ69
        have N69 := Fr.app N21 N69q
        obtain ⟨cq75, kq75, q75a, q75b, q75c⟩ := isOf hZ e69 qp21_0
        obtain ⟨_, _, ⟨T75, L75, k75, n75⟩, -, X75, ⟨Lc75, hQ75, l75, y75, z75⟩, st75⟩ := X69.virtualBack hx (y := (⟨"com/example/neat_contract/neatcontract/document/Position", "equals", "(Ljava/lang/Object;)Z"⟩ : MethodName)) (z := (⟨"com/example/neat_contract/neatcontract/document/Position", "equals", "(Ljava/lang/Object;)Z"⟩ : MethodName)) hown (mvT hZ (hw _ (List.mem_of_getElem? (i := 18) rfl))) (mvT hZ (hw _ (List.mem_of_getElem? (i := 19) rfl))) (notFace_of_selects (args := #[]) (mvT hZ (hw _ (List.mem_of_getElem? (i := 21) rfl)))) (mvT hZ (hw _ (List.mem_of_getElem? (i := 21) rfl))) (mvT hZ (hw _ (List.mem_of_getElem? (i := 20) rfl))) (by decide) (backOf (W := 0) (rm4 l Z a0 hw [] b20 b14 (f1 (1 : Int32) (p3 &&& (2147483647 : Int32))) (f1 (1 : Int32) (p1 &&& (2147483647 : Int32))) (f1 (1 : Int32) (p4 &&& (2147483647 : Int32))) (f1 (1 : Int32) (p2 &&& (2147483647 : Int32))) T21.heap n0 Zs74 Ex72 qp21_1 F70 qp21_2 F71) hZ (hw _ (List.mem_of_getElem? (i := 22) rfl)) (hw _ (List.mem_of_getElem? (i := 7) rfl)) (by decide) (by decide)) q75a q75c (g := (mkF m 127 #[.val (.int p1), .val (.int p2), .val (.int p3), .val (.int p4), .val (.int p5), .val (.int (f1 (1 : Int32) (p1 &&& (2147483647 : Int32)))), .val (.int (f1 (1 : Int32) (p2 &&& (2147483647 : Int32)))), .val (.int (f1 (1 : Int32) (p3 &&& (2147483647 : Int32)))), .val (.int (f1 (1 : Int32) (p4 &&& (2147483647 : Int32)))), .val (.ref b14), .val (.ref b20), .val (.int (0 : Int32))] [(.ref b14), (.ref b20)])) rfl (by rw [hml]; rfl) (Steps.refl _) (argsL := [(.ref b14)]) (rest := []) (lenOf pd_0_3 rfl) rfl (by show 2 * 0 + _ ≤ _; exact Nat.le_of_eq rfl) (hb hby at_127) (fun _ _ => ⟨rfl, e69, (by decide : 2 + 0 ≤ _), (by decide : 4 + 0 ≤ _)⟩)
        dsimp only [Pt.U, Pt.locs, Pt.cells, Pt.slots] at X75 l75 y75 z75 st75 hQ75
        subst l75 y75 z75
        obtain ⟨rfl, N75q, e75⟩ := hQ75
        have N75 := Fr.app N69 N75q
        obtain ⟨cq76, kq76, q76a, q76b, q76c⟩ := isOf hZ e75 Ex72
        obtain ⟨_, _, ⟨T76, L76, k76, n76⟩, -, X76, ⟨Lc76, hQ76, l76, y76, z76⟩, st76⟩ := X75.virtualBack hx (y := (⟨"com/example/neat_contract/neatcontract/document/Position", "equals", "(Ljava/lang/Object;)Z"⟩ : MethodName)) (z := (⟨"com/example/neat_contract/neatcontract/document/Position", "equals", "(Ljava/lang/Object;)Z"⟩ : MethodName)) hown (mvT hZ (hw _ (List.mem_of_getElem? (i := 18) rfl))) (mvT hZ (hw _ (List.mem_of_getElem? (i := 19) rfl))) (notFace_of_selects (args := #[]) (mvT hZ (hw _ (List.mem_of_getElem? (i := 21) rfl)))) (mvT hZ (hw _ (List.mem_of_getElem? (i := 21) rfl))) (mvT hZ (hw _ (List.mem_of_getElem? (i := 20) rfl))) (by decide) (backOf (W := 0) (rm4 l Z a0 hw [] b14 b14 (f1 (1 : Int32) (p1 &&& (2147483647 : Int32))) (f1 (1 : Int32) (p1 &&& (2147483647 : Int32))) (f1 (1 : Int32) (p2 &&& (2147483647 : Int32))) (f1 (1 : Int32) (p2 &&& (2147483647 : Int32))) T21.heap n0 Zs74 Ex72 F70 F70 F71 F71) hZ (hw _ (List.mem_of_getElem? (i := 22) rfl)) (hw _ (List.mem_of_getElem? (i := 7) rfl)) (by decide) (by decide)) q76a q76c (g := (mkF m 139 #[.val (.int p1), .val (.int p2), .val (.int p3), .val (.int p4), .val (.int p5), .val (.int (f1 (1 : Int32) (p1 &&& (2147483647 : Int32)))), .val (.int (f1 (1 : Int32) (p2 &&& (2147483647 : Int32)))), .val (.int (f1 (1 : Int32) (p3 &&& (2147483647 : Int32)))), .val (.int (f1 (1 : Int32) (p4 &&& (2147483647 : Int32)))), .val (.ref b14), .val (.ref b20), .val (.int (0 : Int32))] [(.ref b14), (.ref b14)])) rfl (by rw [hml]; rfl) (Steps.refl _) (argsL := [(.ref b14)]) (rest := []) (lenOf pd_0_3 rfl) rfl (by show 2 * 0 + _ ≤ _; exact Nat.le_of_eq rfl) (hb hby at_139) (fun _ _ => ⟨rfl, e75, (by decide : 2 + 0 ≤ _), (by decide : 4 + 0 ≤ _)⟩)
        dsimp only [Pt.U, Pt.locs, Pt.cells, Pt.slots] at X76 l76 y76 z76 st76 hQ76
        subst l76 y76 z76
        obtain ⟨rfl, N76q, e76⟩ := hQ76
        have N76 := Fr.app N75 N76q
        obtain ⟨cq77, kq77, q77a, q77b, q77c⟩ := isOf hZ e76 Ex72
        obtain ⟨_, _, ⟨T77, L77, k77, n77⟩, -, X77, ⟨Lc77, hQ77, l77, y77, z77⟩, st77⟩ := X76.virtualBack hx (y := (⟨"com/example/neat_contract/neatcontract/document/Position", "equals", "(Ljava/lang/Object;)Z"⟩ : MethodName)) (z := (⟨"com/example/neat_contract/neatcontract/document/Position", "equals", "(Ljava/lang/Object;)Z"⟩ : MethodName)) hown (mvT hZ (hw _ (List.mem_of_getElem? (i := 18) rfl))) (mvT hZ (hw _ (List.mem_of_getElem? (i := 19) rfl))) (notFace_of_selects (args := #[]) (mvT hZ (hw _ (List.mem_of_getElem? (i := 21) rfl)))) (mvT hZ (hw _ (List.mem_of_getElem? (i := 21) rfl))) (mvT hZ (hw _ (List.mem_of_getElem? (i := 20) rfl))) (by decide) (backOf (W := 0) (rm104 l Z a0 hw [] b14 T21.heap n0 Zs74 ) hZ (hw _ (List.mem_of_getElem? (i := 22) rfl)) (hw _ (List.mem_of_getElem? (i := 7) rfl)) (by decide) (by decide)) q77a q77c (g := (mkF m 148 #[.val (.int p1), .val (.int p2), .val (.int p3), .val (.int p4), .val (.int p5), .val (.int (f1 (1 : Int32) (p1 &&& (2147483647 : Int32)))), .val (.int (f1 (1 : Int32) (p2 &&& (2147483647 : Int32)))), .val (.int (f1 (1 : Int32) (p3 &&& (2147483647 : Int32)))), .val (.int (f1 (1 : Int32) (p4 &&& (2147483647 : Int32)))), .val (.ref b14), .val (.ref b20), .val (.int (0 : Int32))] [.null, (.ref b14)])) rfl (by rw [hml]; rfl) (Steps.refl _) (argsL := [.null]) (rest := []) (lenOf pd_0_3 rfl) rfl (by show 2 * 0 + _ ≤ _; exact Nat.le_of_eq rfl) (hb hby at_148) (fun _ _ => ⟨rfl, e76, (by decide : 2 + 0 ≤ _), (by decide : 4 + 0 ≤ _)⟩)
        dsimp only [Pt.U, Pt.locs, Pt.cells, Pt.slots] at X77 l77 y77 z77 st77 hQ77
        subst l77 y77 z77
        obtain ⟨rfl, N77q, e77⟩ := hQ77
        have N77 := Fr.app N76 N77q
        obtain ⟨_, _, ⟨T78, L78, k78, n78⟩, -, X78, ⟨Lc78, hQ78, l78, y78, z78⟩, st78⟩ := Jvm.LawKit.callS X77 hx (y := (⟨"java/lang/Integer", "valueOf", "(I)Ljava/lang/Integer;"⟩ : MethodName)) hown (mvT hZ (hw _ (List.mem_of_getElem? (i := 25) rfl))) (mvT hZ (hw _ (List.mem_of_getElem? (i := 26) rfl))) (mvT hZ (hw _ (List.mem_of_getElem? (i := 27) rfl))) (mvT hZ (hw _ (List.mem_of_getElem? (i := 28) rfl))) (by decide) (backOf (W := 1) (rm5 l Z a0 hw [] p1 w_cache cl_w T21.heap n0 Zs74 AR hsz hel Od73 (Sz_high.ext Od73.2) (Sz_cache.ext Od73.2)) hZ (hw _ (List.mem_of_getElem? (i := 28) rfl)) (hw _ (List.mem_of_getElem? (i := 27) rfl)) (by decide) (by decide)) (g := (mkF m 157 #[.val (.int p1), .val (.int p2), .val (.int p3), .val (.int p4), .val (.int p5), .val (.int (f1 (1 : Int32) (p1 &&& (2147483647 : Int32)))), .val (.int (f1 (1 : Int32) (p2 &&& (2147483647 : Int32)))), .val (.int (f1 (1 : Int32) (p3 &&& (2147483647 : Int32)))), .val (.int (f1 (1 : Int32) (p4 &&& (2147483647 : Int32)))), .val (.ref b14), .val (.ref b20), .val (.int (0 : Int32))] [(.int p1), (.ref b14)])) rfl (by rw [hml]; rfl) (argsL := [(.int p1)]) (rest := [(.ref b14)]) (lenOf pd_0_4 rfl) rfl (by show 2 * 0 + _ ≤ _; exact Nat.le_of_eq rfl) (hb hby at_157) (fun _ _ => ⟨rfl, e77, (by decide : 2 + 1 ≤ _), (by decide : 4 + 1 ≤ _)⟩)
        dsimp only [Pt.U, Pt.locs, Pt.cells, Pt.slots] at X78 l78 y78 z78 st78 hQ78
        subst l78 y78 z78
        obtain ⟨r78, rfl, N78q, Kp78, qp78_0⟩ := hQ78
        have N78 := Fr.app N77 N78q
        have F80 := (F70.keep Kp78 nin0)
        have F81 := (F71.keep Kp78 nin0)
        have F82 := (qp21_1.keep Kp78 nin0)
        have F83 := (qp21_2.keep Kp78 nin0)
        have Ex84 := (Ex72.keep Kp78)
        have Ex85 := (qp21_0.keep Kp78)
        have Od86 := (Od73.keep Kp78 all0)
        have Zs87 : n0 ≤ T78.heap.size := (Nat.le_trans Zs74 Kp78.1)
        obtain ⟨cq79, kq79, q79a, q79b, q79c⟩ := isOf hZ rfl Ex84
        obtain ⟨_, _, ⟨T79, L79, k79, n79⟩, -, X79, ⟨Lc79, hQ79, l79, y79, z79⟩, st79⟩ := X78.virtualBack hx (y := (⟨"com/example/neat_contract/neatcontract/document/Position", "equals", "(Ljava/lang/Object;)Z"⟩ : MethodName)) (z := (⟨"com/example/neat_contract/neatcontract/document/Position", "equals", "(Ljava/lang/Object;)Z"⟩ : MethodName)) hown (mvT hZ (hw _ (List.mem_of_getElem? (i := 18) rfl))) (mvT hZ (hw _ (List.mem_of_getElem? (i := 19) rfl))) (notFace_of_selects (args := #[]) (mvT hZ (hw _ (List.mem_of_getElem? (i := 21) rfl)))) (mvT hZ (hw _ (List.mem_of_getElem? (i := 21) rfl))) (mvT hZ (hw _ (List.mem_of_getElem? (i := 20) rfl))) (by decide) (backOf (W := 0) (rm204 l Z a0 hw [] b14 r78 T78.heap n0 Zs87 (own_ni (hw _ (List.mem_of_getElem? (i := 32) rfl)) (hw _ (List.mem_of_getElem? (i := 33) rfl)) (hw _ (List.mem_of_getElem? (i := 34) rfl)) (hw _ (List.mem_of_getElem? (i := 6) rfl)) (by decide) (by decide) (by decide)) qp78_0) hZ (hw _ (List.mem_of_getElem? (i := 22) rfl)) (hw _ (List.mem_of_getElem? (i := 7) rfl)) (by decide) (by decide)) q79a q79c (g := (mkF m 160 #[.val (.int p1), .val (.int p2), .val (.int p3), .val (.int p4), .val (.int p5), .val (.int (f1 (1 : Int32) (p1 &&& (2147483647 : Int32)))), .val (.int (f1 (1 : Int32) (p2 &&& (2147483647 : Int32)))), .val (.int (f1 (1 : Int32) (p3 &&& (2147483647 : Int32)))), .val (.int (f1 (1 : Int32) (p4 &&& (2147483647 : Int32)))), .val (.ref b14), .val (.ref b20), .val (.int (0 : Int32))] [(.ref r78), (.ref b14)])) rfl (by rw [hml]; rfl) (Steps.refl _) (argsL := [(.ref r78)]) (rest := []) (lenOf pd_0_3 rfl) rfl (by show 2 * 0 + _ ≤ _; exact Nat.le_of_eq rfl) (hb hby at_160) (fun _ _ => ⟨rfl, rfl, (by decide : 3 + 0 ≤ _), (by decide : 5 + 0 ≤ _)⟩)
        dsimp only [Pt.U, Pt.locs, Pt.cells, Pt.slots] at X79 l79 y79 z79 st79 hQ79
        subst l79 y79 z79
        obtain ⟨rfl, N79q, e79⟩ := hQ79
        have N79 := Fr.app N78 N79q
        obtain ⟨fs, hr, hrun, hended, hW, hsame⟩ := X79.leave (v := some (.int (1 : Int32))) (fun h => by rw [Bd.returns] at h; cases h) (by first | exact BodyLoose.notSynchronized Bd | exact Body.notSynchronized Bd)
        refine ⟨_, _, pre27 _ ?_, hrun, hended, _, _, rfl, ?_, ⟨_, rfl⟩, hW, hsame.mono (by decide) (by decide)⟩
        · show Steps p.tables e below (T21.setTop (mkF m 94 #[.val (.int p1), .val (.int p2), .val (.int p3), .val (.int p4), .val (.int p5), .val (.int (f1 (1 : Int32) (p1 &&& (2147483647 : Int32)))), .val (.int (f1 (1 : Int32) (p2 &&& (2147483647 : Int32)))), .val (.int (f1 (1 : Int32) (p3 &&& (2147483647 : Int32)))), .val (.int (f1 (1 : Int32) (p4 &&& (2147483647 : Int32)))), .val (.ref b14), .val (.ref b20), .unset] [(.int (f1 (1 : Int32) (p3 &&& (2147483647 : Int32)))), (.int (f1 (1 : Int32) (p1 &&& (2147483647 : Int32))))])) _
          refine XS.icmpYes X21.here hx rfl (pc0 := 94) (pc' := 108) rfl (hb hby at_94) rfl (feq hc28).2 (by decide) (by decide) ?_
          show Steps p.tables e below (T21.setTop (mkF m 108 _ [])) _
          refine XS.iconst X21.here hx rfl (hb hby at_108) ?_
          show Steps p.tables e below (T21.setTop (mkF m 109 _ [(.int (0 : Int32))])) _
          refine XS.istore X21.here hx rfl (hb hby at_109) rfl (l' := #[.val (.int p1), .val (.int p2), .val (.int p3), .val (.int p4), .val (.int p5), .val (.int (f1 (1 : Int32) (p1 &&& (2147483647 : Int32)))), .val (.int (f1 (1 : Int32) (p2 &&& (2147483647 : Int32)))), .val (.int (f1 (1 : Int32) (p3 &&& (2147483647 : Int32)))), .val (.int (f1 (1 : Int32) (p4 &&& (2147483647 : Int32)))), .val (.ref b14), .val (.ref b20), .val (.int (0 : Int32))]) rfl ?_
          show Steps p.tables e below (T21.setTop (mkF m 111 _ [])) _
          refine XS.aload X21.here hx rfl (hb hby at_111) rfl rfl ?_
          show Steps p.tables e below (T21.setTop (mkF m 113 _ [(.ref b14)])) _
          refine XS.aload X21.here hx rfl (hb hby at_113) rfl rfl ?_
          show Steps p.tables e below (T21.setTop (mkF m 115 _ [(.ref b20), (.ref b14)])) _
          refine st69.trans ?_
          show Steps p.tables e below (T69.setTop (mkF m 118 _ [(.int (f4 (f1 (1 : Int32) (p1 &&& (2147483647 : Int32))) (f1 (1 : Int32) (p3 &&& (2147483647 : Int32))) (f1 (1 : Int32) (p2 &&& (2147483647 : Int32))) (f1 (1 : Int32) (p4 &&& (2147483647 : Int32)))))])) _
          refine XS.iload X69.here hx rfl (hb hby at_118) rfl ?_
          show Steps p.tables e below (T69.setTop (mkF m 120 _ [(.int (0 : Int32)), (.int (f4 (f1 (1 : Int32) (p1 &&& (2147483647 : Int32))) (f1 (1 : Int32) (p3 &&& (2147483647 : Int32))) (f1 (1 : Int32) (p2 &&& (2147483647 : Int32))) (f1 (1 : Int32) (p4 &&& (2147483647 : Int32)))))])) _
          refine XS.icmpNo X69.here hx rfl (hb hby at_120) rfl (teq (by simp [f4, *])).2 ?_
          show Steps p.tables e below (T69.setTop (mkF m 123 _ [])) _
          refine XS.aload X69.here hx rfl (hb hby at_123) rfl rfl ?_
          show Steps p.tables e below (T69.setTop (mkF m 125 _ [(.ref b20)])) _
          refine XS.aload X69.here hx rfl (hb hby at_125) rfl rfl ?_
          show Steps p.tables e below (T69.setTop (mkF m 127 _ [(.ref b14), (.ref b20)])) _
          refine st75.trans ?_
          show Steps p.tables e below (T75.setTop (mkF m 130 _ [(.int (f4 (f1 (1 : Int32) (p3 &&& (2147483647 : Int32))) (f1 (1 : Int32) (p1 &&& (2147483647 : Int32))) (f1 (1 : Int32) (p4 &&& (2147483647 : Int32))) (f1 (1 : Int32) (p2 &&& (2147483647 : Int32)))))])) _
          refine XS.iload X75.here hx rfl (hb hby at_130) rfl ?_
          show Steps p.tables e below (T75.setTop (mkF m 132 _ [(.int (0 : Int32)), (.int (f4 (f1 (1 : Int32) (p3 &&& (2147483647 : Int32))) (f1 (1 : Int32) (p1 &&& (2147483647 : Int32))) (f1 (1 : Int32) (p4 &&& (2147483647 : Int32))) (f1 (1 : Int32) (p2 &&& (2147483647 : Int32)))))])) _
          refine XS.icmpNo X75.here hx rfl (hb hby at_132) rfl (teq (by rw [own_sym]; simp [f4, *])).2 ?_
          show Steps p.tables e below (T75.setTop (mkF m 135 _ [])) _
          refine XS.aload X75.here hx rfl (hb hby at_135) rfl rfl ?_
          show Steps p.tables e below (T75.setTop (mkF m 137 _ [(.ref b14)])) _
          refine XS.aload X75.here hx rfl (hb hby at_137) rfl rfl ?_
          show Steps p.tables e below (T75.setTop (mkF m 139 _ [(.ref b14), (.ref b14)])) _
          refine st76.trans ?_
          show Steps p.tables e below (T76.setTop (mkF m 142 _ [(.int (f4 (f1 (1 : Int32) (p1 &&& (2147483647 : Int32))) (f1 (1 : Int32) (p1 &&& (2147483647 : Int32))) (f1 (1 : Int32) (p2 &&& (2147483647 : Int32))) (f1 (1 : Int32) (p2 &&& (2147483647 : Int32)))))])) _
          refine XS.ifNo X76.here hx rfl (hb hby at_142) rfl ((if0 _ _).trans (feq (by simp [f4])).1) ?_
          show Steps p.tables e below (T76.setTop (mkF m 145 _ [])) _
          refine XS.aload X76.here hx rfl (hb hby at_145) rfl rfl ?_
          show Steps p.tables e below (T76.setTop (mkF m 147 _ [(.ref b14)])) _
          refine XS.aconstNull X76.here hx rfl (hb hby at_147) ?_
          show Steps p.tables e below (T76.setTop (mkF m 148 _ [.null, (.ref b14)])) _
          refine st77.trans ?_
          show Steps p.tables e below (T77.setTop (mkF m 151 _ [(.int (0 : Int32))])) _
          refine XS.ifNo X77.here hx rfl (hb hby at_151) rfl ((if0 _ _).trans (teq (by decide)).2) ?_
          show Steps p.tables e below (T77.setTop (mkF m 154 _ [])) _
          refine XS.aload X77.here hx rfl (hb hby at_154) rfl rfl ?_
          show Steps p.tables e below (T77.setTop (mkF m 156 _ [(.ref b14)])) _
          refine XS.iloadN X77.here hx rfl (hb hby at_156) rfl ?_
          show Steps p.tables e below (T77.setTop (mkF m 157 _ [(.int p1), (.ref b14)])) _
          refine st78 _ ?_
          show Steps p.tables e below (T78.setTop (mkF m 160 _ [(.ref r78), (.ref b14)])) _
          refine st79.trans ?_
          show Steps p.tables e below (T79.setTop (mkF m 163 _ [(.int (0 : Int32))])) _
          refine XS.ifNo X79.here hx rfl (hb hby at_163) rfl ((if0 _ _).trans (teq (by decide)).2) ?_
          show Steps p.tables e below (T79.setTop (mkF m 166 _ [])) _
          refine XS.iconst X79.here hx rfl (hb hby at_166) ?_
          show Steps p.tables e below (T79.setTop (mkF m 167 _ [(.int (1 : Int32))])) _
          refine XS.goto X79.here hx rfl (pc0 := 167) (pc' := 171) rfl (hb hby at_167) (by decide) (by decide) ?_
          show Steps p.tables e below (T79.setTop (mkF m 171 #[.val (.int p1), .val (.int p2), .val (.int p3), .val (.int p4), .val (.int p5), .val (.int (f1 (1 : Int32) (p1 &&& (2147483647 : Int32)))), .val (.int (f1 (1 : Int32) (p2 &&& (2147483647 : Int32)))), .val (.int (f1 (1 : Int32) (p3 &&& (2147483647 : Int32)))), .val (.int (f1 (1 : Int32) (p4 &&& (2147483647 : Int32)))), .val (.ref b14), .val (.ref b20), .val (.int (0 : Int32))] [(.int (1 : Int32))])) _
          exact retN X79 hx (t := .boolean) Bd.returns (by simp) (hb hby at_171) hr
        · show Q0 Z p1 p2 p3 p4 p5 w_cache cl_w h0 n0 _ T79.heap _
          rw [e79]
          exact ⟨congrArg (fun z => some (Value.int z)) (by rw [f0, if_pos hc9, if_pos hc12, if_neg hc28] : f0 p1 p2 p3 p4 p5 w_cache cl_w = (1 : Int32)).symm, N79⟩
    · skip
      obtain ⟨T88, h88, X88, e88, E88, A88, D88, -, st88⟩ := newO X10 hx hZ hown (hw _ (List.mem_of_getElem? (i := 5) rfl)) (hw _ (List.mem_of_getElem? (i := 6) rfl)) (hw _ (List.mem_of_getElem? (i := 7) rfl)) e10 (g := (mkF m 64 #[.val (.int p1), .val (.int p2), .val (.int p3), .val (.int p4), .val (.int p5), .val (.int (f1 (1 : Int32) (p1 &&& (2147483647 : Int32)))), .val (.int (f1 (1 : Int32) (p2 &&& (2147483647 : Int32)))), .val (.int (f1 (1 : Int32) (p3 &&& (2147483647 : Int32)))), .val (.int (f1 (1 : Int32) (p2 &&& (2147483647 : Int32)))), .unset, .unset, .unset] [])) rfl (hb hby at_64) (by decide) (by decide)
      obtain ⟨b88, g88⟩ : ∃ z, z = h0.size := ⟨_, rfl⟩
      rw [← g88] at A88 D88 st88
      have g_b88 : n0 ≤ b88 := Nat.le_trans Z0 (Nat.le_of_eq g88.symm)
      have F_line_b88 : Fld Z h88 b88 "com/example/neat_contract/neatcontract/document/Position" "line" "I" (.int (0 : Int32)) := D88 (Or.inr (hw _ (List.mem_of_getElem? (i := 15) rfl))) (ty := .int) (by decide)
      have F_column_b88 : Fld Z h88 b88 "com/example/neat_contract/neatcontract/document/Position" "column" "I" (.int (0 : Int32)) := D88 (Or.inr (hw _ (List.mem_of_getElem? (i := 17) rfl))) (ty := .int) (by decide)
      have Od90 := (O0.ext E88)
      have Zs91 : n0 ≤ h88.size := (Nat.le_trans Z0 E88.1)
      obtain ⟨_, _, ⟨T89, L89, k89, n89⟩, -, X89, ⟨Lc89, hQ89, l89, y89, z89⟩, st89⟩ := X88.specialBack hx (y := (⟨"com/example/neat_contract/neatcontract/document/Position", "<init>", "(II)V"⟩ : MethodName)) rfl hown (mvT hZ (hw _ (List.mem_of_getElem? (i := 8) rfl))) (mvT hZ (hw _ (List.mem_of_getElem? (i := 9) rfl))) (mvT hZ (hw _ (List.mem_of_getElem? (i := 10) rfl))) (by decide) (backOf (W := 1) (rm2 l Z a0 hw [] b88 (f1 (1 : Int32) (p1 &&& (2147483647 : Int32))) (f1 (1 : Int32) (p2 &&& (2147483647 : Int32))) (.int (0 : Int32)) (.int (0 : Int32)) h88 n0 Zs91 (own_max _) (own_max _) A88 F_line_b88 F_column_b88 g_b88) hZ (hw _ (List.mem_of_getElem? (i := 10) rfl)) (hw _ (List.mem_of_getElem? (i := 7) rfl)) (by decide) (by decide)) (g := (mkF m 72 #[.val (.int p1), .val (.int p2), .val (.int p3), .val (.int p4), .val (.int p5), .val (.int (f1 (1 : Int32) (p1 &&& (2147483647 : Int32)))), .val (.int (f1 (1 : Int32) (p2 &&& (2147483647 : Int32)))), .val (.int (f1 (1 : Int32) (p3 &&& (2147483647 : Int32)))), .val (.int (f1 (1 : Int32) (p2 &&& (2147483647 : Int32)))), .unset, .unset, .unset] [(.int (f1 (1 : Int32) (p2 &&& (2147483647 : Int32)))), (.int (f1 (1 : Int32) (p1 &&& (2147483647 : Int32)))), (.ref b88), (.ref b88)])) rfl (by rw [hml]; rfl) (Steps.refl _) (a := b88) (argsL := [(.int (f1 (1 : Int32) (p1 &&& (2147483647 : Int32)))), (.int (f1 (1 : Int32) (p2 &&& (2147483647 : Int32))))]) (rest := [(.ref b88)]) (lenOf pd_0_1 rfl) rfl (by show 2 * 0 + _ ≤ _; exact Nat.le_of_eq rfl) (hb hby at_72) (fun _ _ => ⟨rfl, e88, (by decide : 1 + 0 ≤ _), (by decide : 2 + 0 ≤ _)⟩)
      dsimp only [Pt.U, Pt.locs, Pt.cells, Pt.slots] at X89 l89 y89 z89 st89 hQ89
      subst l89 y89 z89
      obtain ⟨rfl, N89q, Kp89, qp89_0, qp89_1, qp89_2⟩ := hQ89
      have N89 := Fr.app N10 N89q
      have Od92 := (Od90.keep Kp89 (allS g_b88 all0))
      have Zs93 : n0 ≤ T89.heap.size := (Nat.le_trans Zs91 Kp89.1)
      obtain ⟨T94, h94, X94, e94, E94, A94, D94, -, st94⟩ := newO X89 hx hZ hown (hw _ (List.mem_of_getElem? (i := 5) rfl)) (hw _ (List.mem_of_getElem? (i := 6) rfl)) (hw _ (List.mem_of_getElem? (i := 7) rfl)) rfl (g := (mkF m 77 #[.val (.int p1), .val (.int p2), .val (.int p3), .val (.int p4), .val (.int p5), .val (.int (f1 (1 : Int32) (p1 &&& (2147483647 : Int32)))), .val (.int (f1 (1 : Int32) (p2 &&& (2147483647 : Int32)))), .val (.int (f1 (1 : Int32) (p3 &&& (2147483647 : Int32)))), .val (.int (f1 (1 : Int32) (p2 &&& (2147483647 : Int32)))), .val (.ref b88), .unset, .unset] [])) rfl (hb hby at_77) (by decide) (by decide)
      obtain ⟨b94, g94⟩ : ∃ z, z = T89.heap.size := ⟨_, rfl⟩
      rw [← g94] at A94 D94 st94
      have g_b94 : n0 ≤ b94 := Nat.le_trans Zs93 (Nat.le_of_eq g94.symm)
      have ne_b88_b94 : b88 ≠ b94 := Nat.ne_of_lt (Nat.lt_of_lt_of_le qp89_0.lt (Nat.le_of_eq g94.symm))
      have F_line_b94 : Fld Z h94 b94 "com/example/neat_contract/neatcontract/document/Position" "line" "I" (.int (0 : Int32)) := D94 (Or.inr (hw _ (List.mem_of_getElem? (i := 15) rfl))) (ty := .int) (by decide)
      have F_column_b94 : Fld Z h94 b94 "com/example/neat_contract/neatcontract/document/Position" "column" "I" (.int (0 : Int32)) := D94 (Or.inr (hw _ (List.mem_of_getElem? (i := 17) rfl))) (ty := .int) (by decide)
      have F96 := (qp89_1.ext E94)
      have F97 := (qp89_2.ext E94)
      have Ex98 := (qp89_0.ext E94)
      have Od99 := (Od92.ext E94)
      have Zs100 : n0 ≤ h94.size := (Nat.le_trans Zs93 E94.1)
      obtain ⟨_, _, ⟨T95, L95, k95, n95⟩, -, X95, ⟨Lc95, hQ95, l95, y95, z95⟩, st95⟩ := X94.specialBack hx (y := (⟨"com/example/neat_contract/neatcontract/document/Position", "<init>", "(II)V"⟩ : MethodName)) rfl hown (mvT hZ (hw _ (List.mem_of_getElem? (i := 8) rfl))) (mvT hZ (hw _ (List.mem_of_getElem? (i := 9) rfl))) (mvT hZ (hw _ (List.mem_of_getElem? (i := 10) rfl))) (by decide) (backOf (W := 1) (rm2 l Z a0 hw [] b94 (f1 (1 : Int32) (p3 &&& (2147483647 : Int32))) (f1 (1 : Int32) (p2 &&& (2147483647 : Int32))) (.int (0 : Int32)) (.int (0 : Int32)) h94 n0 Zs100 (own_max _) (own_max _) A94 F_line_b94 F_column_b94 g_b94) hZ (hw _ (List.mem_of_getElem? (i := 10) rfl)) (hw _ (List.mem_of_getElem? (i := 7) rfl)) (by decide) (by decide)) (g := (mkF m 85 #[.val (.int p1), .val (.int p2), .val (.int p3), .val (.int p4), .val (.int p5), .val (.int (f1 (1 : Int32) (p1 &&& (2147483647 : Int32)))), .val (.int (f1 (1 : Int32) (p2 &&& (2147483647 : Int32)))), .val (.int (f1 (1 : Int32) (p3 &&& (2147483647 : Int32)))), .val (.int (f1 (1 : Int32) (p2 &&& (2147483647 : Int32)))), .val (.ref b88), .unset, .unset] [(.int (f1 (1 : Int32) (p2 &&& (2147483647 : Int32)))), (.int (f1 (1 : Int32) (p3 &&& (2147483647 : Int32)))), (.ref b94), (.ref b94)])) rfl (by rw [hml]; rfl) (Steps.refl _) (a := b94) (argsL := [(.int (f1 (1 : Int32) (p3 &&& (2147483647 : Int32)))), (.int (f1 (1 : Int32) (p2 &&& (2147483647 : Int32))))]) (rest := [(.ref b94)]) (lenOf pd_0_1 rfl) rfl (by show 2 * 0 + _ ≤ _; exact Nat.le_of_eq rfl) (hb hby at_85) (fun _ _ => ⟨rfl, e94, (by decide : 2 + 0 ≤ _), (by decide : 4 + 0 ≤ _)⟩)
      dsimp only [Pt.U, Pt.locs, Pt.cells, Pt.slots] at X95 l95 y95 z95 st95 hQ95
      subst l95 y95 z95
      obtain ⟨rfl, N95q, Kp95, qp95_0, qp95_1, qp95_2⟩ := hQ95
      have N95 := Fr.app N89 N95q
      have pre101 : ∀ t, Steps p.tables e below (T95.setTop (mkF m 94 #[.val (.int p1), .val (.int p2), .val (.int p3), .val (.int p4), .val (.int p5), .val (.int (f1 (1 : Int32) (p1 &&& (2147483647 : Int32)))), .val (.int (f1 (1 : Int32) (p2 &&& (2147483647 : Int32)))), .val (.int (f1 (1 : Int32) (p3 &&& (2147483647 : Int32)))), .val (.int (f1 (1 : Int32) (p2 &&& (2147483647 : Int32)))), .val (.ref b88), .val (.ref b94), .unset] [(.int (f1 (1 : Int32) (p3 &&& (2147483647 : Int32)))), (.int (f1 (1 : Int32) (p1 &&& (2147483647 : Int32))))])) t → Steps p.tables e below (s₁.setTop (entryFrame m #[(.int p1), (.int p2), (.int p3), (.int p4), (.int p5)] maxLocals)) t := fun t kt => by
        refine pre11 _ ?_
        show Steps p.tables e below (T10.setTop (mkF m 46 #[.val (.int p1), .val (.int p2), .val (.int p3), .val (.int p4), .val (.int p5), .val (.int (f1 (1 : Int32) (p1 &&& (2147483647 : Int32)))), .val (.int (f1 (1 : Int32) (p2 &&& (2147483647 : Int32)))), .val (.int (f1 (1 : Int32) (p3 &&& (2147483647 : Int32)))), .unset, .unset, .unset, .unset] [(.int (p5 &&& (2 : Int32)))])) _
        refine XS.ifNo X10.here hx rfl (hb hby at_46) rfl ((if0 _ _).trans (feq hc12).1) ?_
        show Steps p.tables e below (T10.setTop (mkF m 49 _ [])) _
        refine XS.iload X10.here hx rfl (hb hby at_49) rfl ?_
        show Steps p.tables e below (T10.setTop (mkF m 51 _ [(.int (f1 (1 : Int32) (p2 &&& (2147483647 : Int32))))])) _
        refine XS.goto X10.here hx rfl (pc0 := 51) (pc' := 62) rfl (hb hby at_51) (by decide) (by decide) ?_
        show Steps p.tables e below (T10.setTop (mkF m 62 _ [(.int (f1 (1 : Int32) (p2 &&& (2147483647 : Int32))))])) _
        refine XS.istore X10.here hx rfl (hb hby at_62) rfl (l' := #[.val (.int p1), .val (.int p2), .val (.int p3), .val (.int p4), .val (.int p5), .val (.int (f1 (1 : Int32) (p1 &&& (2147483647 : Int32)))), .val (.int (f1 (1 : Int32) (p2 &&& (2147483647 : Int32)))), .val (.int (f1 (1 : Int32) (p3 &&& (2147483647 : Int32)))), .val (.int (f1 (1 : Int32) (p2 &&& (2147483647 : Int32)))), .unset, .unset, .unset]) rfl ?_
        show Steps p.tables e below (T10.setTop (mkF m 64 _ [])) _
        refine st88 _ ?_
        show Steps p.tables e below (T88.setTop (mkF m 67 _ [(.ref b88)])) _
        refine XS.dup X88.here hx rfl (hb hby at_67) rfl rfl ?_
        show Steps p.tables e below (T88.setTop (mkF m 68 _ [(.ref b88), (.ref b88)])) _
        refine XS.iload X88.here hx rfl (hb hby at_68) rfl ?_
        show Steps p.tables e below (T88.setTop (mkF m 70 _ [(.int (f1 (1 : Int32) (p1 &&& (2147483647 : Int32)))), (.ref b88), (.ref b88)])) _
        refine XS.iload X88.here hx rfl (hb hby at_70) rfl ?_
        show Steps p.tables e below (T88.setTop (mkF m 72 _ [(.int (f1 (1 : Int32) (p2 &&& (2147483647 : Int32)))), (.int (f1 (1 : Int32) (p1 &&& (2147483647 : Int32)))), (.ref b88), (.ref b88)])) _
        refine st89.trans ?_
        show Steps p.tables e below (T89.setTop (mkF m 75 _ [(.ref b88)])) _
        refine XS.astore X89.here hx rfl (hb hby at_75) rfl rfl (l' := #[.val (.int p1), .val (.int p2), .val (.int p3), .val (.int p4), .val (.int p5), .val (.int (f1 (1 : Int32) (p1 &&& (2147483647 : Int32)))), .val (.int (f1 (1 : Int32) (p2 &&& (2147483647 : Int32)))), .val (.int (f1 (1 : Int32) (p3 &&& (2147483647 : Int32)))), .val (.int (f1 (1 : Int32) (p2 &&& (2147483647 : Int32)))), .val (.ref b88), .unset, .unset]) rfl ?_
        show Steps p.tables e below (T89.setTop (mkF m 77 _ [])) _
        refine st94 _ ?_
        show Steps p.tables e below (T94.setTop (mkF m 80 _ [(.ref b94)])) _
        refine XS.dup X94.here hx rfl (hb hby at_80) rfl rfl ?_
        show Steps p.tables e below (T94.setTop (mkF m 81 _ [(.ref b94), (.ref b94)])) _
        refine XS.iload X94.here hx rfl (hb hby at_81) rfl ?_
        show Steps p.tables e below (T94.setTop (mkF m 83 _ [(.int (f1 (1 : Int32) (p3 &&& (2147483647 : Int32)))), (.ref b94), (.ref b94)])) _
        refine XS.iload X94.here hx rfl (hb hby at_83) rfl ?_
        show Steps p.tables e below (T94.setTop (mkF m 85 _ [(.int (f1 (1 : Int32) (p2 &&& (2147483647 : Int32)))), (.int (f1 (1 : Int32) (p3 &&& (2147483647 : Int32)))), (.ref b94), (.ref b94)])) _
        refine st95.trans ?_
        show Steps p.tables e below (T95.setTop (mkF m 88 _ [(.ref b94)])) _
        refine XS.astore X95.here hx rfl (hb hby at_88) rfl rfl (l' := #[.val (.int p1), .val (.int p2), .val (.int p3), .val (.int p4), .val (.int p5), .val (.int (f1 (1 : Int32) (p1 &&& (2147483647 : Int32)))), .val (.int (f1 (1 : Int32) (p2 &&& (2147483647 : Int32)))), .val (.int (f1 (1 : Int32) (p3 &&& (2147483647 : Int32)))), .val (.int (f1 (1 : Int32) (p2 &&& (2147483647 : Int32)))), .val (.ref b88), .val (.ref b94), .unset]) rfl ?_
        show Steps p.tables e below (T95.setTop (mkF m 90 _ [])) _
        refine XS.iload X95.here hx rfl (hb hby at_90) rfl ?_
        show Steps p.tables e below (T95.setTop (mkF m 92 _ [(.int (f1 (1 : Int32) (p1 &&& (2147483647 : Int32))))])) _
        refine XS.iload X95.here hx rfl (hb hby at_92) rfl ?_
        exact kt
      by_cases hc102 : (f1 (1 : Int32) (p1 &&& (2147483647 : Int32))) = (f1 (1 : Int32) (p3 &&& (2147483647 : Int32)))
      · skip
        have F104 := (F96.keep Kp95 (ninS ne_b88_b94 nin0))
        have F105 := (F97.keep Kp95 (ninS ne_b88_b94 nin0))
        have Ex106 := (Ex98.keep Kp95)
        have Od107 := (Od99.keep Kp95 (allS g_b94 all0))
        have Zs108 : n0 ≤ T95.heap.size := (Nat.le_trans Zs100 Kp95.1)
        obtain ⟨cq103, kq103, q103a, q103b, q103c⟩ := isOf hZ rfl Ex106
        obtain ⟨_, _, ⟨T103, L103, k103, n103⟩, -, X103, ⟨Lc103, hQ103, l103, y103, z103⟩, st103⟩ := X95.virtualBack hx (y := (⟨"com/example/neat_contract/neatcontract/document/Position", "equals", "(Ljava/lang/Object;)Z"⟩ : MethodName)) (z := (⟨"com/example/neat_contract/neatcontract/document/Position", "equals", "(Ljava/lang/Object;)Z"⟩ : MethodName)) hown (mvT hZ (hw _ (List.mem_of_getElem? (i := 18) rfl))) (mvT hZ (hw _ (List.mem_of_getElem? (i := 19) rfl))) (notFace_of_selects (args := #[]) (mvT hZ (hw _ (List.mem_of_getElem? (i := 21) rfl)))) (mvT hZ (hw _ (List.mem_of_getElem? (i := 21) rfl))) (mvT hZ (hw _ (List.mem_of_getElem? (i := 20) rfl))) (by decide) (backOf (W := 0) (rm4 l Z a0 hw [] b88 b94 (f1 (1 : Int32) (p1 &&& (2147483647 : Int32))) (f1 (1 : Int32) (p3 &&& (2147483647 : Int32))) (f1 (1 : Int32) (p2 &&& (2147483647 : Int32))) (f1 (1 : Int32) (p2 &&& (2147483647 : Int32))) T95.heap n0 Zs108 qp95_0 F104 qp95_1 F105 qp95_2) hZ (hw _ (List.mem_of_getElem? (i := 22) rfl)) (hw _ (List.mem_of_getElem? (i := 7) rfl)) (by decide) (by decide)) q103a q103c (g := (mkF m 115 #[.val (.int p1), .val (.int p2), .val (.int p3), .val (.int p4), .val (.int p5), .val (.int (f1 (1 : Int32) (p1 &&& (2147483647 : Int32)))), .val (.int (f1 (1 : Int32) (p2 &&& (2147483647 : Int32)))), .val (.int (f1 (1 : Int32) (p3 &&& (2147483647 : Int32)))), .val (.int (f1 (1 : Int32) (p2 &&& (2147483647 : Int32)))), .val (.ref b88), .val (.ref b94), .val (.int (1 : Int32))] [(.ref b94), (.ref b88)])) rfl (by rw [hml]; rfl) (Steps.refl _) (argsL := [(.ref b94)]) (rest := []) (lenOf pd_0_3 rfl) rfl (by show 2 * 0 + _ ≤ _; exact Nat.le_of_eq rfl) (hb hby at_115) (fun _ _ => ⟨rfl, rfl, (by decide : 2 + 0 ≤ _), (by decide : 4 + 0 ≤ _)⟩)
        dsimp only [Pt.U, Pt.locs, Pt.cells, Pt.slots] at X103 l103 y103 z103 st103 hQ103
        subst l103 y103 z103
        obtain ⟨rfl, N103q, e103⟩ := hQ103
        have N103 := Fr.app N95 N103q
        obtain ⟨cq109, kq109, q109a, q109b, q109c⟩ := isOf hZ e103 qp95_0
        obtain ⟨_, _, ⟨T109, L109, k109, n109⟩, -, X109, ⟨Lc109, hQ109, l109, y109, z109⟩, st109⟩ := X103.virtualBack hx (y := (⟨"com/example/neat_contract/neatcontract/document/Position", "equals", "(Ljava/lang/Object;)Z"⟩ : MethodName)) (z := (⟨"com/example/neat_contract/neatcontract/document/Position", "equals", "(Ljava/lang/Object;)Z"⟩ : MethodName)) hown (mvT hZ (hw _ (List.mem_of_getElem? (i := 18) rfl))) (mvT hZ (hw _ (List.mem_of_getElem? (i := 19) rfl))) (notFace_of_selects (args := #[]) (mvT hZ (hw _ (List.mem_of_getElem? (i := 21) rfl)))) (mvT hZ (hw _ (List.mem_of_getElem? (i := 21) rfl))) (mvT hZ (hw _ (List.mem_of_getElem? (i := 20) rfl))) (by decide) (backOf (W := 0) (rm4 l Z a0 hw [] b94 b88 (f1 (1 : Int32) (p3 &&& (2147483647 : Int32))) (f1 (1 : Int32) (p1 &&& (2147483647 : Int32))) (f1 (1 : Int32) (p2 &&& (2147483647 : Int32))) (f1 (1 : Int32) (p2 &&& (2147483647 : Int32))) T95.heap n0 Zs108 Ex106 qp95_1 F104 qp95_2 F105) hZ (hw _ (List.mem_of_getElem? (i := 22) rfl)) (hw _ (List.mem_of_getElem? (i := 7) rfl)) (by decide) (by decide)) q109a q109c (g := (mkF m 127 #[.val (.int p1), .val (.int p2), .val (.int p3), .val (.int p4), .val (.int p5), .val (.int (f1 (1 : Int32) (p1 &&& (2147483647 : Int32)))), .val (.int (f1 (1 : Int32) (p2 &&& (2147483647 : Int32)))), .val (.int (f1 (1 : Int32) (p3 &&& (2147483647 : Int32)))), .val (.int (f1 (1 : Int32) (p2 &&& (2147483647 : Int32)))), .val (.ref b88), .val (.ref b94), .val (.int (1 : Int32))] [(.ref b88), (.ref b94)])) rfl (by rw [hml]; rfl) (Steps.refl _) (argsL := [(.ref b88)]) (rest := []) (lenOf pd_0_3 rfl) rfl (by show 2 * 0 + _ ≤ _; exact Nat.le_of_eq rfl) (hb hby at_127) (fun _ _ => ⟨rfl, e103, (by decide : 2 + 0 ≤ _), (by decide : 4 + 0 ≤ _)⟩)
        dsimp only [Pt.U, Pt.locs, Pt.cells, Pt.slots] at X109 l109 y109 z109 st109 hQ109
        subst l109 y109 z109
        obtain ⟨rfl, N109q, e109⟩ := hQ109
        have N109 := Fr.app N103 N109q
        obtain ⟨cq110, kq110, q110a, q110b, q110c⟩ := isOf hZ e109 Ex106
        obtain ⟨_, _, ⟨T110, L110, k110, n110⟩, -, X110, ⟨Lc110, hQ110, l110, y110, z110⟩, st110⟩ := X109.virtualBack hx (y := (⟨"com/example/neat_contract/neatcontract/document/Position", "equals", "(Ljava/lang/Object;)Z"⟩ : MethodName)) (z := (⟨"com/example/neat_contract/neatcontract/document/Position", "equals", "(Ljava/lang/Object;)Z"⟩ : MethodName)) hown (mvT hZ (hw _ (List.mem_of_getElem? (i := 18) rfl))) (mvT hZ (hw _ (List.mem_of_getElem? (i := 19) rfl))) (notFace_of_selects (args := #[]) (mvT hZ (hw _ (List.mem_of_getElem? (i := 21) rfl)))) (mvT hZ (hw _ (List.mem_of_getElem? (i := 21) rfl))) (mvT hZ (hw _ (List.mem_of_getElem? (i := 20) rfl))) (by decide) (backOf (W := 0) (rm4 l Z a0 hw [] b88 b88 (f1 (1 : Int32) (p1 &&& (2147483647 : Int32))) (f1 (1 : Int32) (p1 &&& (2147483647 : Int32))) (f1 (1 : Int32) (p2 &&& (2147483647 : Int32))) (f1 (1 : Int32) (p2 &&& (2147483647 : Int32))) T95.heap n0 Zs108 Ex106 F104 F104 F105 F105) hZ (hw _ (List.mem_of_getElem? (i := 22) rfl)) (hw _ (List.mem_of_getElem? (i := 7) rfl)) (by decide) (by decide)) q110a q110c (g := (mkF m 139 #[.val (.int p1), .val (.int p2), .val (.int p3), .val (.int p4), .val (.int p5), .val (.int (f1 (1 : Int32) (p1 &&& (2147483647 : Int32)))), .val (.int (f1 (1 : Int32) (p2 &&& (2147483647 : Int32)))), .val (.int (f1 (1 : Int32) (p3 &&& (2147483647 : Int32)))), .val (.int (f1 (1 : Int32) (p2 &&& (2147483647 : Int32)))), .val (.ref b88), .val (.ref b94), .val (.int (1 : Int32))] [(.ref b88), (.ref b88)])) rfl (by rw [hml]; rfl) (Steps.refl _) (argsL := [(.ref b88)]) (rest := []) (lenOf pd_0_3 rfl) rfl (by show 2 * 0 + _ ≤ _; exact Nat.le_of_eq rfl) (hb hby at_139) (fun _ _ => ⟨rfl, e109, (by decide : 2 + 0 ≤ _), (by decide : 4 + 0 ≤ _)⟩)
        dsimp only [Pt.U, Pt.locs, Pt.cells, Pt.slots] at X110 l110 y110 z110 st110 hQ110
        subst l110 y110 z110
        obtain ⟨rfl, N110q, e110⟩ := hQ110
        have N110 := Fr.app N109 N110q
        obtain ⟨cq111, kq111, q111a, q111b, q111c⟩ := isOf hZ e110 Ex106
        obtain ⟨_, _, ⟨T111, L111, k111, n111⟩, -, X111, ⟨Lc111, hQ111, l111, y111, z111⟩, st111⟩ := X110.virtualBack hx (y := (⟨"com/example/neat_contract/neatcontract/document/Position", "equals", "(Ljava/lang/Object;)Z"⟩ : MethodName)) (z := (⟨"com/example/neat_contract/neatcontract/document/Position", "equals", "(Ljava/lang/Object;)Z"⟩ : MethodName)) hown (mvT hZ (hw _ (List.mem_of_getElem? (i := 18) rfl))) (mvT hZ (hw _ (List.mem_of_getElem? (i := 19) rfl))) (notFace_of_selects (args := #[]) (mvT hZ (hw _ (List.mem_of_getElem? (i := 21) rfl)))) (mvT hZ (hw _ (List.mem_of_getElem? (i := 21) rfl))) (mvT hZ (hw _ (List.mem_of_getElem? (i := 20) rfl))) (by decide) (backOf (W := 0) (rm104 l Z a0 hw [] b88 T95.heap n0 Zs108 ) hZ (hw _ (List.mem_of_getElem? (i := 22) rfl)) (hw _ (List.mem_of_getElem? (i := 7) rfl)) (by decide) (by decide)) q111a q111c (g := (mkF m 148 #[.val (.int p1), .val (.int p2), .val (.int p3), .val (.int p4), .val (.int p5), .val (.int (f1 (1 : Int32) (p1 &&& (2147483647 : Int32)))), .val (.int (f1 (1 : Int32) (p2 &&& (2147483647 : Int32)))), .val (.int (f1 (1 : Int32) (p3 &&& (2147483647 : Int32)))), .val (.int (f1 (1 : Int32) (p2 &&& (2147483647 : Int32)))), .val (.ref b88), .val (.ref b94), .val (.int (1 : Int32))] [.null, (.ref b88)])) rfl (by rw [hml]; rfl) (Steps.refl _) (argsL := [.null]) (rest := []) (lenOf pd_0_3 rfl) rfl (by show 2 * 0 + _ ≤ _; exact Nat.le_of_eq rfl) (hb hby at_148) (fun _ _ => ⟨rfl, e110, (by decide : 2 + 0 ≤ _), (by decide : 4 + 0 ≤ _)⟩)
        dsimp only [Pt.U, Pt.locs, Pt.cells, Pt.slots] at X111 l111 y111 z111 st111 hQ111
        subst l111 y111 z111
        obtain ⟨rfl, N111q, e111⟩ := hQ111
        have N111 := Fr.app N110 N111q
        obtain ⟨_, _, ⟨T112, L112, k112, n112⟩, -, X112, ⟨Lc112, hQ112, l112, y112, z112⟩, st112⟩ := Jvm.LawKit.callS X111 hx (y := (⟨"java/lang/Integer", "valueOf", "(I)Ljava/lang/Integer;"⟩ : MethodName)) hown (mvT hZ (hw _ (List.mem_of_getElem? (i := 25) rfl))) (mvT hZ (hw _ (List.mem_of_getElem? (i := 26) rfl))) (mvT hZ (hw _ (List.mem_of_getElem? (i := 27) rfl))) (mvT hZ (hw _ (List.mem_of_getElem? (i := 28) rfl))) (by decide) (backOf (W := 1) (rm5 l Z a0 hw [] p1 w_cache cl_w T95.heap n0 Zs108 AR hsz hel Od107 (Sz_high.ext Od107.2) (Sz_cache.ext Od107.2)) hZ (hw _ (List.mem_of_getElem? (i := 28) rfl)) (hw _ (List.mem_of_getElem? (i := 27) rfl)) (by decide) (by decide)) (g := (mkF m 157 #[.val (.int p1), .val (.int p2), .val (.int p3), .val (.int p4), .val (.int p5), .val (.int (f1 (1 : Int32) (p1 &&& (2147483647 : Int32)))), .val (.int (f1 (1 : Int32) (p2 &&& (2147483647 : Int32)))), .val (.int (f1 (1 : Int32) (p3 &&& (2147483647 : Int32)))), .val (.int (f1 (1 : Int32) (p2 &&& (2147483647 : Int32)))), .val (.ref b88), .val (.ref b94), .val (.int (1 : Int32))] [(.int p1), (.ref b88)])) rfl (by rw [hml]; rfl) (argsL := [(.int p1)]) (rest := [(.ref b88)]) (lenOf pd_0_4 rfl) rfl (by show 2 * 0 + _ ≤ _; exact Nat.le_of_eq rfl) (hb hby at_157) (fun _ _ => ⟨rfl, e111, (by decide : 2 + 1 ≤ _), (by decide : 4 + 1 ≤ _)⟩)
        dsimp only [Pt.U, Pt.locs, Pt.cells, Pt.slots] at X112 l112 y112 z112 st112 hQ112
        subst l112 y112 z112
        obtain ⟨r112, rfl, N112q, Kp112, qp112_0⟩ := hQ112
        have N112 := Fr.app N111 N112q
        have F114 := (F104.keep Kp112 nin0)
        have F115 := (F105.keep Kp112 nin0)
        have F116 := (qp95_1.keep Kp112 nin0)
        have F117 := (qp95_2.keep Kp112 nin0)
        have Ex118 := (Ex106.keep Kp112)
        have Ex119 := (qp95_0.keep Kp112)
        have Od120 := (Od107.keep Kp112 all0)
        have Zs121 : n0 ≤ T112.heap.size := (Nat.le_trans Zs108 Kp112.1)
        obtain ⟨cq113, kq113, q113a, q113b, q113c⟩ := isOf hZ rfl Ex118
        obtain ⟨_, _, ⟨T113, L113, k113, n113⟩, -, X113, ⟨Lc113, hQ113, l113, y113, z113⟩, st113⟩ := X112.virtualBack hx (y := (⟨"com/example/neat_contract/neatcontract/document/Position", "equals", "(Ljava/lang/Object;)Z"⟩ : MethodName)) (z := (⟨"com/example/neat_contract/neatcontract/document/Position", "equals", "(Ljava/lang/Object;)Z"⟩ : MethodName)) hown (mvT hZ (hw _ (List.mem_of_getElem? (i := 18) rfl))) (mvT hZ (hw _ (List.mem_of_getElem? (i := 19) rfl))) (notFace_of_selects (args := #[]) (mvT hZ (hw _ (List.mem_of_getElem? (i := 21) rfl)))) (mvT hZ (hw _ (List.mem_of_getElem? (i := 21) rfl))) (mvT hZ (hw _ (List.mem_of_getElem? (i := 20) rfl))) (by decide) (backOf (W := 0) (rm204 l Z a0 hw [] b88 r112 T112.heap n0 Zs121 (own_ni (hw _ (List.mem_of_getElem? (i := 32) rfl)) (hw _ (List.mem_of_getElem? (i := 33) rfl)) (hw _ (List.mem_of_getElem? (i := 34) rfl)) (hw _ (List.mem_of_getElem? (i := 6) rfl)) (by decide) (by decide) (by decide)) qp112_0) hZ (hw _ (List.mem_of_getElem? (i := 22) rfl)) (hw _ (List.mem_of_getElem? (i := 7) rfl)) (by decide) (by decide)) q113a q113c (g := (mkF m 160 #[.val (.int p1), .val (.int p2), .val (.int p3), .val (.int p4), .val (.int p5), .val (.int (f1 (1 : Int32) (p1 &&& (2147483647 : Int32)))), .val (.int (f1 (1 : Int32) (p2 &&& (2147483647 : Int32)))), .val (.int (f1 (1 : Int32) (p3 &&& (2147483647 : Int32)))), .val (.int (f1 (1 : Int32) (p2 &&& (2147483647 : Int32)))), .val (.ref b88), .val (.ref b94), .val (.int (1 : Int32))] [(.ref r112), (.ref b88)])) rfl (by rw [hml]; rfl) (Steps.refl _) (argsL := [(.ref r112)]) (rest := []) (lenOf pd_0_3 rfl) rfl (by show 2 * 0 + _ ≤ _; exact Nat.le_of_eq rfl) (hb hby at_160) (fun _ _ => ⟨rfl, rfl, (by decide : 3 + 0 ≤ _), (by decide : 5 + 0 ≤ _)⟩)
        dsimp only [Pt.U, Pt.locs, Pt.cells, Pt.slots] at X113 l113 y113 z113 st113 hQ113
        subst l113 y113 z113
        obtain ⟨rfl, N113q, e113⟩ := hQ113
        have N113 := Fr.app N112 N113q
        obtain ⟨fs, hr, hrun, hended, hW, hsame⟩ := X113.leave (v := some (.int (1 : Int32))) (fun h => by rw [Bd.returns] at h; cases h) (by first | exact BodyLoose.notSynchronized Bd | exact Body.notSynchronized Bd)
        refine ⟨_, _, pre101 _ ?_, hrun, hended, _, _, rfl, ?_, ⟨_, rfl⟩, hW, hsame.mono (by decide) (by decide)⟩
        · show Steps p.tables e below (T95.setTop (mkF m 94 #[.val (.int p1), .val (.int p2), .val (.int p3), .val (.int p4), .val (.int p5), .val (.int (f1 (1 : Int32) (p1 &&& (2147483647 : Int32)))), .val (.int (f1 (1 : Int32) (p2 &&& (2147483647 : Int32)))), .val (.int (f1 (1 : Int32) (p3 &&& (2147483647 : Int32)))), .val (.int (f1 (1 : Int32) (p2 &&& (2147483647 : Int32)))), .val (.ref b88), .val (.ref b94), .unset] [(.int (f1 (1 : Int32) (p3 &&& (2147483647 : Int32)))), (.int (f1 (1 : Int32) (p1 &&& (2147483647 : Int32))))])) _
          refine XS.icmpNo X95.here hx rfl (hb hby at_94) rfl (teq hc102).2 ?_
          show Steps p.tables e below (T95.setTop (mkF m 97 _ [])) _
          refine XS.iload X95.here hx rfl (hb hby at_97) rfl ?_
          show Steps p.tables e below (T95.setTop (mkF m 99 _ [(.int (f1 (1 : Int32) (p2 &&& (2147483647 : Int32))))])) _
          refine XS.iload X95.here hx rfl (hb hby at_99) rfl ?_
          show Steps p.tables e below (T95.setTop (mkF m 101 _ [(.int (f1 (1 : Int32) (p2 &&& (2147483647 : Int32)))), (.int (f1 (1 : Int32) (p2 &&& (2147483647 : Int32))))])) _
          refine XS.icmpNo X95.here hx rfl (hb hby at_101) rfl (teq rfl).2 ?_
          show Steps p.tables e below (T95.setTop (mkF m 104 _ [])) _
          refine XS.iconst X95.here hx rfl (hb hby at_104) ?_
          show Steps p.tables e below (T95.setTop (mkF m 105 _ [(.int (1 : Int32))])) _
          refine XS.goto X95.here hx rfl (pc0 := 105) (pc' := 109) rfl (hb hby at_105) (by decide) (by decide) ?_
          show Steps p.tables e below (T95.setTop (mkF m 109 _ [(.int (1 : Int32))])) _
          refine XS.istore X95.here hx rfl (hb hby at_109) rfl (l' := #[.val (.int p1), .val (.int p2), .val (.int p3), .val (.int p4), .val (.int p5), .val (.int (f1 (1 : Int32) (p1 &&& (2147483647 : Int32)))), .val (.int (f1 (1 : Int32) (p2 &&& (2147483647 : Int32)))), .val (.int (f1 (1 : Int32) (p3 &&& (2147483647 : Int32)))), .val (.int (f1 (1 : Int32) (p2 &&& (2147483647 : Int32)))), .val (.ref b88), .val (.ref b94), .val (.int (1 : Int32))]) rfl ?_
          show Steps p.tables e below (T95.setTop (mkF m 111 _ [])) _
          refine XS.aload X95.here hx rfl (hb hby at_111) rfl rfl ?_
          show Steps p.tables e below (T95.setTop (mkF m 113 _ [(.ref b88)])) _
          refine XS.aload X95.here hx rfl (hb hby at_113) rfl rfl ?_
          show Steps p.tables e below (T95.setTop (mkF m 115 _ [(.ref b94), (.ref b88)])) _
          refine st103.trans ?_
          show Steps p.tables e below (T103.setTop (mkF m 118 _ [(.int (f4 (f1 (1 : Int32) (p1 &&& (2147483647 : Int32))) (f1 (1 : Int32) (p3 &&& (2147483647 : Int32))) (f1 (1 : Int32) (p2 &&& (2147483647 : Int32))) (f1 (1 : Int32) (p2 &&& (2147483647 : Int32)))))])) _
          refine XS.iload X103.here hx rfl (hb hby at_118) rfl ?_
          show Steps p.tables e below (T103.setTop (mkF m 120 _ [(.int (1 : Int32)), (.int (f4 (f1 (1 : Int32) (p1 &&& (2147483647 : Int32))) (f1 (1 : Int32) (p3 &&& (2147483647 : Int32))) (f1 (1 : Int32) (p2 &&& (2147483647 : Int32))) (f1 (1 : Int32) (p2 &&& (2147483647 : Int32)))))])) _
          refine XS.icmpNo X103.here hx rfl (hb hby at_120) rfl (teq (by simp [f4, *])).2 ?_
          show Steps p.tables e below (T103.setTop (mkF m 123 _ [])) _
          refine XS.aload X103.here hx rfl (hb hby at_123) rfl rfl ?_
          show Steps p.tables e below (T103.setTop (mkF m 125 _ [(.ref b94)])) _
          refine XS.aload X103.here hx rfl (hb hby at_125) rfl rfl ?_
          show Steps p.tables e below (T103.setTop (mkF m 127 _ [(.ref b88), (.ref b94)])) _
          refine st109.trans ?_
          show Steps p.tables e below (T109.setTop (mkF m 130 _ [(.int (f4 (f1 (1 : Int32) (p3 &&& (2147483647 : Int32))) (f1 (1 : Int32) (p1 &&& (2147483647 : Int32))) (f1 (1 : Int32) (p2 &&& (2147483647 : Int32))) (f1 (1 : Int32) (p2 &&& (2147483647 : Int32)))))])) _
          refine XS.iload X109.here hx rfl (hb hby at_130) rfl ?_
          show Steps p.tables e below (T109.setTop (mkF m 132 _ [(.int (1 : Int32)), (.int (f4 (f1 (1 : Int32) (p3 &&& (2147483647 : Int32))) (f1 (1 : Int32) (p1 &&& (2147483647 : Int32))) (f1 (1 : Int32) (p2 &&& (2147483647 : Int32))) (f1 (1 : Int32) (p2 &&& (2147483647 : Int32)))))])) _
          refine XS.icmpNo X109.here hx rfl (hb hby at_132) rfl (teq (by rw [own_sym]; simp [f4, *])).2 ?_
          show Steps p.tables e below (T109.setTop (mkF m 135 _ [])) _
          refine XS.aload X109.here hx rfl (hb hby at_135) rfl rfl ?_
          show Steps p.tables e below (T109.setTop (mkF m 137 _ [(.ref b88)])) _
          refine XS.aload X109.here hx rfl (hb hby at_137) rfl rfl ?_
          show Steps p.tables e below (T109.setTop (mkF m 139 _ [(.ref b88), (.ref b88)])) _
          refine st110.trans ?_
          show Steps p.tables e below (T110.setTop (mkF m 142 _ [(.int (f4 (f1 (1 : Int32) (p1 &&& (2147483647 : Int32))) (f1 (1 : Int32) (p1 &&& (2147483647 : Int32))) (f1 (1 : Int32) (p2 &&& (2147483647 : Int32))) (f1 (1 : Int32) (p2 &&& (2147483647 : Int32)))))])) _
          refine XS.ifNo X110.here hx rfl (hb hby at_142) rfl ((if0 _ _).trans (feq (by simp [f4])).1) ?_
          show Steps p.tables e below (T110.setTop (mkF m 145 _ [])) _
          refine XS.aload X110.here hx rfl (hb hby at_145) rfl rfl ?_
          show Steps p.tables e below (T110.setTop (mkF m 147 _ [(.ref b88)])) _
          refine XS.aconstNull X110.here hx rfl (hb hby at_147) ?_
          show Steps p.tables e below (T110.setTop (mkF m 148 _ [.null, (.ref b88)])) _
          refine st111.trans ?_
          show Steps p.tables e below (T111.setTop (mkF m 151 _ [(.int (0 : Int32))])) _
          refine XS.ifNo X111.here hx rfl (hb hby at_151) rfl ((if0 _ _).trans (teq (by decide)).2) ?_
          show Steps p.tables e below (T111.setTop (mkF m 154 _ [])) _
          refine XS.aload X111.here hx rfl (hb hby at_154) rfl rfl ?_
          show Steps p.tables e below (T111.setTop (mkF m 156 _ [(.ref b88)])) _
          refine XS.iloadN X111.here hx rfl (hb hby at_156) rfl ?_
          show Steps p.tables e below (T111.setTop (mkF m 157 _ [(.int p1), (.ref b88)])) _
          refine st112 _ ?_
          show Steps p.tables e below (T112.setTop (mkF m 160 _ [(.ref r112), (.ref b88)])) _
          refine st113.trans ?_
          show Steps p.tables e below (T113.setTop (mkF m 163 _ [(.int (0 : Int32))])) _
          refine XS.ifNo X113.here hx rfl (hb hby at_163) rfl ((if0 _ _).trans (teq (by decide)).2) ?_
          show Steps p.tables e below (T113.setTop (mkF m 166 _ [])) _
          refine XS.iconst X113.here hx rfl (hb hby at_166) ?_
          show Steps p.tables e below (T113.setTop (mkF m 167 _ [(.int (1 : Int32))])) _
          refine XS.goto X113.here hx rfl (pc0 := 167) (pc' := 171) rfl (hb hby at_167) (by decide) (by decide) ?_
          show Steps p.tables e below (T113.setTop (mkF m 171 #[.val (.int p1), .val (.int p2), .val (.int p3), .val (.int p4), .val (.int p5), .val (.int (f1 (1 : Int32) (p1 &&& (2147483647 : Int32)))), .val (.int (f1 (1 : Int32) (p2 &&& (2147483647 : Int32)))), .val (.int (f1 (1 : Int32) (p3 &&& (2147483647 : Int32)))), .val (.int (f1 (1 : Int32) (p2 &&& (2147483647 : Int32)))), .val (.ref b88), .val (.ref b94), .val (.int (1 : Int32))] [(.int (1 : Int32))])) _
          exact retN X113 hx (t := .boolean) Bd.returns (by simp) (hb hby at_171) hr
        · show Q0 Z p1 p2 p3 p4 p5 w_cache cl_w h0 n0 _ T113.heap _
          rw [e113]
          exact ⟨congrArg (fun z => some (Value.int z)) (by rw [f0, if_pos hc9, if_neg hc12, if_pos hc102] : f0 p1 p2 p3 p4 p5 w_cache cl_w = (1 : Int32)).symm, N113⟩
      · skip
        have F123 := (F96.keep Kp95 (ninS ne_b88_b94 nin0))
        have F124 := (F97.keep Kp95 (ninS ne_b88_b94 nin0))
        have Ex125 := (Ex98.keep Kp95)
        have Od126 := (Od99.keep Kp95 (allS g_b94 all0))
        have Zs127 : n0 ≤ T95.heap.size := (Nat.le_trans Zs100 Kp95.1)
        obtain ⟨cq122, kq122, q122a, q122b, q122c⟩ := isOf hZ rfl Ex125
        obtain ⟨_, _, ⟨T122, L122, k122, n122⟩, -, X122, ⟨Lc122, hQ122, l122, y122, z122⟩, st122⟩ := X95.virtualBack hx (y := (⟨"com/example/neat_contract/neatcontract/document/Position", "equals", "(Ljava/lang/Object;)Z"⟩ : MethodName)) (z := (⟨"com/example/neat_contract/neatcontract/document/Position", "equals", "(Ljava/lang/Object;)Z"⟩ : MethodName)) hown (mvT hZ (hw _ (List.mem_of_getElem? (i := 18) rfl))) (mvT hZ (hw _ (List.mem_of_getElem? (i := 19) rfl))) (notFace_of_selects (args := #[]) (mvT hZ (hw _ (List.mem_of_getElem? (i := 21) rfl)))) (mvT hZ (hw _ (List.mem_of_getElem? (i := 21) rfl))) (mvT hZ (hw _ (List.mem_of_getElem? (i := 20) rfl))) (by decide) (backOf (W := 0) (rm4 l Z a0 hw [] b88 b94 (f1 (1 : Int32) (p1 &&& (2147483647 : Int32))) (f1 (1 : Int32) (p3 &&& (2147483647 : Int32))) (f1 (1 : Int32) (p2 &&& (2147483647 : Int32))) (f1 (1 : Int32) (p2 &&& (2147483647 : Int32))) T95.heap n0 Zs127 qp95_0 F123 qp95_1 F124 qp95_2) hZ (hw _ (List.mem_of_getElem? (i := 22) rfl)) (hw _ (List.mem_of_getElem? (i := 7) rfl)) (by decide) (by decide)) q122a q122c (g := (mkF m 115 #[.val (.int p1), .val (.int p2), .val (.int p3), .val (.int p4), .val (.int p5), .val (.int (f1 (1 : Int32) (p1 &&& (2147483647 : Int32)))), .val (.int (f1 (1 : Int32) (p2 &&& (2147483647 : Int32)))), .val (.int (f1 (1 : Int32) (p3 &&& (2147483647 : Int32)))), .val (.int (f1 (1 : Int32) (p2 &&& (2147483647 : Int32)))), .val (.ref b88), .val (.ref b94), .val (.int (0 : Int32))] [(.ref b94), (.ref b88)])) rfl (by rw [hml]; rfl) (Steps.refl _) (argsL := [(.ref b94)]) (rest := []) (lenOf pd_0_3 rfl) rfl (by show 2 * 0 + _ ≤ _; exact Nat.le_of_eq rfl) (hb hby at_115) (fun _ _ => ⟨rfl, rfl, (by decide : 2 + 0 ≤ _), (by decide : 4 + 0 ≤ _)⟩)
        dsimp only [Pt.U, Pt.locs, Pt.cells, Pt.slots] at X122 l122 y122 z122 st122 hQ122
        subst l122 y122 z122
        obtain ⟨rfl, N122q, e122⟩ := hQ122
        have N122 := Fr.app N95 N122q
        obtain ⟨cq128, kq128, q128a, q128b, q128c⟩ := isOf hZ e122 qp95_0
        obtain ⟨_, _, ⟨T128, L128, k128, n128⟩, -, X128, ⟨Lc128, hQ128, l128, y128, z128⟩, st128⟩ := X122.virtualBack hx (y := (⟨"com/example/neat_contract/neatcontract/document/Position", "equals", "(Ljava/lang/Object;)Z"⟩ : MethodName)) (z := (⟨"com/example/neat_contract/neatcontract/document/Position", "equals", "(Ljava/lang/Object;)Z"⟩ : MethodName)) hown (mvT hZ (hw _ (List.mem_of_getElem? (i := 18) rfl))) (mvT hZ (hw _ (List.mem_of_getElem? (i := 19) rfl))) (notFace_of_selects (args := #[]) (mvT hZ (hw _ (List.mem_of_getElem? (i := 21) rfl)))) (mvT hZ (hw _ (List.mem_of_getElem? (i := 21) rfl))) (mvT hZ (hw _ (List.mem_of_getElem? (i := 20) rfl))) (by decide) (backOf (W := 0) (rm4 l Z a0 hw [] b94 b88 (f1 (1 : Int32) (p3 &&& (2147483647 : Int32))) (f1 (1 : Int32) (p1 &&& (2147483647 : Int32))) (f1 (1 : Int32) (p2 &&& (2147483647 : Int32))) (f1 (1 : Int32) (p2 &&& (2147483647 : Int32))) T95.heap n0 Zs127 Ex125 qp95_1 F123 qp95_2 F124) hZ (hw _ (List.mem_of_getElem? (i := 22) rfl)) (hw _ (List.mem_of_getElem? (i := 7) rfl)) (by decide) (by decide)) q128a q128c (g := (mkF m 127 #[.val (.int p1), .val (.int p2), .val (.int p3), .val (.int p4), .val (.int p5), .val (.int (f1 (1 : Int32) (p1 &&& (2147483647 : Int32)))), .val (.int (f1 (1 : Int32) (p2 &&& (2147483647 : Int32)))), .val (.int (f1 (1 : Int32) (p3 &&& (2147483647 : Int32)))), .val (.int (f1 (1 : Int32) (p2 &&& (2147483647 : Int32)))), .val (.ref b88), .val (.ref b94), .val (.int (0 : Int32))] [(.ref b88), (.ref b94)])) rfl (by rw [hml]; rfl) (Steps.refl _) (argsL := [(.ref b88)]) (rest := []) (lenOf pd_0_3 rfl) rfl (by show 2 * 0 + _ ≤ _; exact Nat.le_of_eq rfl) (hb hby at_127) (fun _ _ => ⟨rfl, e122, (by decide : 2 + 0 ≤ _), (by decide : 4 + 0 ≤ _)⟩)
        dsimp only [Pt.U, Pt.locs, Pt.cells, Pt.slots] at X128 l128 y128 z128 st128 hQ128
        subst l128 y128 z128
        obtain ⟨rfl, N128q, e128⟩ := hQ128
        have N128 := Fr.app N122 N128q
        obtain ⟨cq129, kq129, q129a, q129b, q129c⟩ := isOf hZ e128 Ex125
        obtain ⟨_, _, ⟨T129, L129, k129, n129⟩, -, X129, ⟨Lc129, hQ129, l129, y129, z129⟩, st129⟩ := X128.virtualBack hx (y := (⟨"com/example/neat_contract/neatcontract/document/Position", "equals", "(Ljava/lang/Object;)Z"⟩ : MethodName)) (z := (⟨"com/example/neat_contract/neatcontract/document/Position", "equals", "(Ljava/lang/Object;)Z"⟩ : MethodName)) hown (mvT hZ (hw _ (List.mem_of_getElem? (i := 18) rfl))) (mvT hZ (hw _ (List.mem_of_getElem? (i := 19) rfl))) (notFace_of_selects (args := #[]) (mvT hZ (hw _ (List.mem_of_getElem? (i := 21) rfl)))) (mvT hZ (hw _ (List.mem_of_getElem? (i := 21) rfl))) (mvT hZ (hw _ (List.mem_of_getElem? (i := 20) rfl))) (by decide) (backOf (W := 0) (rm4 l Z a0 hw [] b88 b88 (f1 (1 : Int32) (p1 &&& (2147483647 : Int32))) (f1 (1 : Int32) (p1 &&& (2147483647 : Int32))) (f1 (1 : Int32) (p2 &&& (2147483647 : Int32))) (f1 (1 : Int32) (p2 &&& (2147483647 : Int32))) T95.heap n0 Zs127 Ex125 F123 F123 F124 F124) hZ (hw _ (List.mem_of_getElem? (i := 22) rfl)) (hw _ (List.mem_of_getElem? (i := 7) rfl)) (by decide) (by decide)) q129a q129c (g := (mkF m 139 #[.val (.int p1), .val (.int p2), .val (.int p3), .val (.int p4), .val (.int p5), .val (.int (f1 (1 : Int32) (p1 &&& (2147483647 : Int32)))), .val (.int (f1 (1 : Int32) (p2 &&& (2147483647 : Int32)))), .val (.int (f1 (1 : Int32) (p3 &&& (2147483647 : Int32)))), .val (.int (f1 (1 : Int32) (p2 &&& (2147483647 : Int32)))), .val (.ref b88), .val (.ref b94), .val (.int (0 : Int32))] [(.ref b88), (.ref b88)])) rfl (by rw [hml]; rfl) (Steps.refl _) (argsL := [(.ref b88)]) (rest := []) (lenOf pd_0_3 rfl) rfl (by show 2 * 0 + _ ≤ _; exact Nat.le_of_eq rfl) (hb hby at_139) (fun _ _ => ⟨rfl, e128, (by decide : 2 + 0 ≤ _), (by decide : 4 + 0 ≤ _)⟩)
        dsimp only [Pt.U, Pt.locs, Pt.cells, Pt.slots] at X129 l129 y129 z129 st129 hQ129
        subst l129 y129 z129
        obtain ⟨rfl, N129q, e129⟩ := hQ129
        have N129 := Fr.app N128 N129q
        obtain ⟨cq130, kq130, q130a, q130b, q130c⟩ := isOf hZ e129 Ex125
        obtain ⟨_, _, ⟨T130, L130, k130, n130⟩, -, X130, ⟨Lc130, hQ130, l130, y130, z130⟩, st130⟩ := X129.virtualBack hx (y := (⟨"com/example/neat_contract/neatcontract/document/Position", "equals", "(Ljava/lang/Object;)Z"⟩ : MethodName)) (z := (⟨"com/example/neat_contract/neatcontract/document/Position", "equals", "(Ljava/lang/Object;)Z"⟩ : MethodName)) hown (mvT hZ (hw _ (List.mem_of_getElem? (i := 18) rfl))) (mvT hZ (hw _ (List.mem_of_getElem? (i := 19) rfl))) (notFace_of_selects (args := #[]) (mvT hZ (hw _ (List.mem_of_getElem? (i := 21) rfl)))) (mvT hZ (hw _ (List.mem_of_getElem? (i := 21) rfl))) (mvT hZ (hw _ (List.mem_of_getElem? (i := 20) rfl))) (by decide) (backOf (W := 0) (rm104 l Z a0 hw [] b88 T95.heap n0 Zs127 ) hZ (hw _ (List.mem_of_getElem? (i := 22) rfl)) (hw _ (List.mem_of_getElem? (i := 7) rfl)) (by decide) (by decide)) q130a q130c (g := (mkF m 148 #[.val (.int p1), .val (.int p2), .val (.int p3), .val (.int p4), .val (.int p5), .val (.int (f1 (1 : Int32) (p1 &&& (2147483647 : Int32)))), .val (.int (f1 (1 : Int32) (p2 &&& (2147483647 : Int32)))), .val (.int (f1 (1 : Int32) (p3 &&& (2147483647 : Int32)))), .val (.int (f1 (1 : Int32) (p2 &&& (2147483647 : Int32)))), .val (.ref b88), .val (.ref b94), .val (.int (0 : Int32))] [.null, (.ref b88)])) rfl (by rw [hml]; rfl) (Steps.refl _) (argsL := [.null]) (rest := []) (lenOf pd_0_3 rfl) rfl (by show 2 * 0 + _ ≤ _; exact Nat.le_of_eq rfl) (hb hby at_148) (fun _ _ => ⟨rfl, e129, (by decide : 2 + 0 ≤ _), (by decide : 4 + 0 ≤ _)⟩)
        dsimp only [Pt.U, Pt.locs, Pt.cells, Pt.slots] at X130 l130 y130 z130 st130 hQ130
        subst l130 y130 z130
        obtain ⟨rfl, N130q, e130⟩ := hQ130
        have N130 := Fr.app N129 N130q
        obtain ⟨_, _, ⟨T131, L131, k131, n131⟩, -, X131, ⟨Lc131, hQ131, l131, y131, z131⟩, st131⟩ := Jvm.LawKit.callS X130 hx (y := (⟨"java/lang/Integer", "valueOf", "(I)Ljava/lang/Integer;"⟩ : MethodName)) hown (mvT hZ (hw _ (List.mem_of_getElem? (i := 25) rfl))) (mvT hZ (hw _ (List.mem_of_getElem? (i := 26) rfl))) (mvT hZ (hw _ (List.mem_of_getElem? (i := 27) rfl))) (mvT hZ (hw _ (List.mem_of_getElem? (i := 28) rfl))) (by decide) (backOf (W := 1) (rm5 l Z a0 hw [] p1 w_cache cl_w T95.heap n0 Zs127 AR hsz hel Od126 (Sz_high.ext Od126.2) (Sz_cache.ext Od126.2)) hZ (hw _ (List.mem_of_getElem? (i := 28) rfl)) (hw _ (List.mem_of_getElem? (i := 27) rfl)) (by decide) (by decide)) (g := (mkF m 157 #[.val (.int p1), .val (.int p2), .val (.int p3), .val (.int p4), .val (.int p5), .val (.int (f1 (1 : Int32) (p1 &&& (2147483647 : Int32)))), .val (.int (f1 (1 : Int32) (p2 &&& (2147483647 : Int32)))), .val (.int (f1 (1 : Int32) (p3 &&& (2147483647 : Int32)))), .val (.int (f1 (1 : Int32) (p2 &&& (2147483647 : Int32)))), .val (.ref b88), .val (.ref b94), .val (.int (0 : Int32))] [(.int p1), (.ref b88)])) rfl (by rw [hml]; rfl) (argsL := [(.int p1)]) (rest := [(.ref b88)]) (lenOf pd_0_4 rfl) rfl (by show 2 * 0 + _ ≤ _; exact Nat.le_of_eq rfl) (hb hby at_157) (fun _ _ => ⟨rfl, e130, (by decide : 2 + 1 ≤ _), (by decide : 4 + 1 ≤ _)⟩)
        dsimp only [Pt.U, Pt.locs, Pt.cells, Pt.slots] at X131 l131 y131 z131 st131 hQ131
        subst l131 y131 z131
        obtain ⟨r131, rfl, N131q, Kp131, qp131_0⟩ := hQ131
        have N131 := Fr.app N130 N131q
        have F133 := (F123.keep Kp131 nin0)
        have F134 := (F124.keep Kp131 nin0)
        have F135 := (qp95_1.keep Kp131 nin0)
        have F136 := (qp95_2.keep Kp131 nin0)
        have Ex137 := (Ex125.keep Kp131)
        have Ex138 := (qp95_0.keep Kp131)
        have Od139 := (Od126.keep Kp131 all0)
        have Zs140 : n0 ≤ T131.heap.size := (Nat.le_trans Zs127 Kp131.1)
        obtain ⟨cq132, kq132, q132a, q132b, q132c⟩ := isOf hZ rfl Ex137
        obtain ⟨_, _, ⟨T132, L132, k132, n132⟩, -, X132, ⟨Lc132, hQ132, l132, y132, z132⟩, st132⟩ := X131.virtualBack hx (y := (⟨"com/example/neat_contract/neatcontract/document/Position", "equals", "(Ljava/lang/Object;)Z"⟩ : MethodName)) (z := (⟨"com/example/neat_contract/neatcontract/document/Position", "equals", "(Ljava/lang/Object;)Z"⟩ : MethodName)) hown (mvT hZ (hw _ (List.mem_of_getElem? (i := 18) rfl))) (mvT hZ (hw _ (List.mem_of_getElem? (i := 19) rfl))) (notFace_of_selects (args := #[]) (mvT hZ (hw _ (List.mem_of_getElem? (i := 21) rfl)))) (mvT hZ (hw _ (List.mem_of_getElem? (i := 21) rfl))) (mvT hZ (hw _ (List.mem_of_getElem? (i := 20) rfl))) (by decide) (backOf (W := 0) (rm204 l Z a0 hw [] b88 r131 T131.heap n0 Zs140 (own_ni (hw _ (List.mem_of_getElem? (i := 32) rfl)) (hw _ (List.mem_of_getElem? (i := 33) rfl)) (hw _ (List.mem_of_getElem? (i := 34) rfl)) (hw _ (List.mem_of_getElem? (i := 6) rfl)) (by decide) (by decide) (by decide)) qp131_0) hZ (hw _ (List.mem_of_getElem? (i := 22) rfl)) (hw _ (List.mem_of_getElem? (i := 7) rfl)) (by decide) (by decide)) q132a q132c (g := (mkF m 160 #[.val (.int p1), .val (.int p2), .val (.int p3), .val (.int p4), .val (.int p5), .val (.int (f1 (1 : Int32) (p1 &&& (2147483647 : Int32)))), .val (.int (f1 (1 : Int32) (p2 &&& (2147483647 : Int32)))), .val (.int (f1 (1 : Int32) (p3 &&& (2147483647 : Int32)))), .val (.int (f1 (1 : Int32) (p2 &&& (2147483647 : Int32)))), .val (.ref b88), .val (.ref b94), .val (.int (0 : Int32))] [(.ref r131), (.ref b88)])) rfl (by rw [hml]; rfl) (Steps.refl _) (argsL := [(.ref r131)]) (rest := []) (lenOf pd_0_3 rfl) rfl (by show 2 * 0 + _ ≤ _; exact Nat.le_of_eq rfl) (hb hby at_160) (fun _ _ => ⟨rfl, rfl, (by decide : 3 + 0 ≤ _), (by decide : 5 + 0 ≤ _)⟩)
        dsimp only [Pt.U, Pt.locs, Pt.cells, Pt.slots] at X132 l132 y132 z132 st132 hQ132
        subst l132 y132 z132
        obtain ⟨rfl, N132q, e132⟩ := hQ132
        have N132 := Fr.app N131 N132q
        obtain ⟨fs, hr, hrun, hended, hW, hsame⟩ := X132.leave (v := some (.int (1 : Int32))) (fun h => by rw [Bd.returns] at h; cases h) (by first | exact BodyLoose.notSynchronized Bd | exact Body.notSynchronized Bd)
        refine ⟨_, _, pre101 _ ?_, hrun, hended, _, _, rfl, ?_, ⟨_, rfl⟩, hW, hsame.mono (by decide) (by decide)⟩
        · show Steps p.tables e below (T95.setTop (mkF m 94 #[.val (.int p1), .val (.int p2), .val (.int p3), .val (.int p4), .val (.int p5), .val (.int (f1 (1 : Int32) (p1 &&& (2147483647 : Int32)))), .val (.int (f1 (1 : Int32) (p2 &&& (2147483647 : Int32)))), .val (.int (f1 (1 : Int32) (p3 &&& (2147483647 : Int32)))), .val (.int (f1 (1 : Int32) (p2 &&& (2147483647 : Int32)))), .val (.ref b88), .val (.ref b94), .unset] [(.int (f1 (1 : Int32) (p3 &&& (2147483647 : Int32)))), (.int (f1 (1 : Int32) (p1 &&& (2147483647 : Int32))))])) _
          refine XS.icmpYes X95.here hx rfl (pc0 := 94) (pc' := 108) rfl (hb hby at_94) rfl (feq hc102).2 (by decide) (by decide) ?_
          show Steps p.tables e below (T95.setTop (mkF m 108 _ [])) _
          refine XS.iconst X95.here hx rfl (hb hby at_108) ?_
          show Steps p.tables e below (T95.setTop (mkF m 109 _ [(.int (0 : Int32))])) _
          refine XS.istore X95.here hx rfl (hb hby at_109) rfl (l' := #[.val (.int p1), .val (.int p2), .val (.int p3), .val (.int p4), .val (.int p5), .val (.int (f1 (1 : Int32) (p1 &&& (2147483647 : Int32)))), .val (.int (f1 (1 : Int32) (p2 &&& (2147483647 : Int32)))), .val (.int (f1 (1 : Int32) (p3 &&& (2147483647 : Int32)))), .val (.int (f1 (1 : Int32) (p2 &&& (2147483647 : Int32)))), .val (.ref b88), .val (.ref b94), .val (.int (0 : Int32))]) rfl ?_
          show Steps p.tables e below (T95.setTop (mkF m 111 _ [])) _
          refine XS.aload X95.here hx rfl (hb hby at_111) rfl rfl ?_
          show Steps p.tables e below (T95.setTop (mkF m 113 _ [(.ref b88)])) _
          refine XS.aload X95.here hx rfl (hb hby at_113) rfl rfl ?_
          show Steps p.tables e below (T95.setTop (mkF m 115 _ [(.ref b94), (.ref b88)])) _
          refine st122.trans ?_
          show Steps p.tables e below (T122.setTop (mkF m 118 _ [(.int (f4 (f1 (1 : Int32) (p1 &&& (2147483647 : Int32))) (f1 (1 : Int32) (p3 &&& (2147483647 : Int32))) (f1 (1 : Int32) (p2 &&& (2147483647 : Int32))) (f1 (1 : Int32) (p2 &&& (2147483647 : Int32)))))])) _
          refine XS.iload X122.here hx rfl (hb hby at_118) rfl ?_
          show Steps p.tables e below (T122.setTop (mkF m 120 _ [(.int (0 : Int32)), (.int (f4 (f1 (1 : Int32) (p1 &&& (2147483647 : Int32))) (f1 (1 : Int32) (p3 &&& (2147483647 : Int32))) (f1 (1 : Int32) (p2 &&& (2147483647 : Int32))) (f1 (1 : Int32) (p2 &&& (2147483647 : Int32)))))])) _
          refine XS.icmpNo X122.here hx rfl (hb hby at_120) rfl (teq (by simp [f4, *])).2 ?_
          show Steps p.tables e below (T122.setTop (mkF m 123 _ [])) _
          refine XS.aload X122.here hx rfl (hb hby at_123) rfl rfl ?_
          show Steps p.tables e below (T122.setTop (mkF m 125 _ [(.ref b94)])) _
          refine XS.aload X122.here hx rfl (hb hby at_125) rfl rfl ?_
          show Steps p.tables e below (T122.setTop (mkF m 127 _ [(.ref b88), (.ref b94)])) _
          refine st128.trans ?_
          show Steps p.tables e below (T128.setTop (mkF m 130 _ [(.int (f4 (f1 (1 : Int32) (p3 &&& (2147483647 : Int32))) (f1 (1 : Int32) (p1 &&& (2147483647 : Int32))) (f1 (1 : Int32) (p2 &&& (2147483647 : Int32))) (f1 (1 : Int32) (p2 &&& (2147483647 : Int32)))))])) _
          refine XS.iload X128.here hx rfl (hb hby at_130) rfl ?_
          show Steps p.tables e below (T128.setTop (mkF m 132 _ [(.int (0 : Int32)), (.int (f4 (f1 (1 : Int32) (p3 &&& (2147483647 : Int32))) (f1 (1 : Int32) (p1 &&& (2147483647 : Int32))) (f1 (1 : Int32) (p2 &&& (2147483647 : Int32))) (f1 (1 : Int32) (p2 &&& (2147483647 : Int32)))))])) _
          refine XS.icmpNo X128.here hx rfl (hb hby at_132) rfl (teq (by rw [own_sym]; simp [f4, *])).2 ?_
          show Steps p.tables e below (T128.setTop (mkF m 135 _ [])) _
          refine XS.aload X128.here hx rfl (hb hby at_135) rfl rfl ?_
          show Steps p.tables e below (T128.setTop (mkF m 137 _ [(.ref b88)])) _
          refine XS.aload X128.here hx rfl (hb hby at_137) rfl rfl ?_
          show Steps p.tables e below (T128.setTop (mkF m 139 _ [(.ref b88), (.ref b88)])) _
          refine st129.trans ?_
          show Steps p.tables e below (T129.setTop (mkF m 142 _ [(.int (f4 (f1 (1 : Int32) (p1 &&& (2147483647 : Int32))) (f1 (1 : Int32) (p1 &&& (2147483647 : Int32))) (f1 (1 : Int32) (p2 &&& (2147483647 : Int32))) (f1 (1 : Int32) (p2 &&& (2147483647 : Int32)))))])) _
          refine XS.ifNo X129.here hx rfl (hb hby at_142) rfl ((if0 _ _).trans (feq (by simp [f4])).1) ?_
          show Steps p.tables e below (T129.setTop (mkF m 145 _ [])) _
          refine XS.aload X129.here hx rfl (hb hby at_145) rfl rfl ?_
          show Steps p.tables e below (T129.setTop (mkF m 147 _ [(.ref b88)])) _
          refine XS.aconstNull X129.here hx rfl (hb hby at_147) ?_
          show Steps p.tables e below (T129.setTop (mkF m 148 _ [.null, (.ref b88)])) _
          refine st130.trans ?_
          show Steps p.tables e below (T130.setTop (mkF m 151 _ [(.int (0 : Int32))])) _
          refine XS.ifNo X130.here hx rfl (hb hby at_151) rfl ((if0 _ _).trans (teq (by decide)).2) ?_
          show Steps p.tables e below (T130.setTop (mkF m 154 _ [])) _
          refine XS.aload X130.here hx rfl (hb hby at_154) rfl rfl ?_
          show Steps p.tables e below (T130.setTop (mkF m 156 _ [(.ref b88)])) _
          refine XS.iloadN X130.here hx rfl (hb hby at_156) rfl ?_
          show Steps p.tables e below (T130.setTop (mkF m 157 _ [(.int p1), (.ref b88)])) _
          refine st131 _ ?_
          show Steps p.tables e below (T131.setTop (mkF m 160 _ [(.ref r131), (.ref b88)])) _
          refine st132.trans ?_
          show Steps p.tables e below (T132.setTop (mkF m 163 _ [(.int (0 : Int32))])) _
          refine XS.ifNo X132.here hx rfl (hb hby at_163) rfl ((if0 _ _).trans (teq (by decide)).2) ?_
          show Steps p.tables e below (T132.setTop (mkF m 166 _ [])) _
          refine XS.iconst X132.here hx rfl (hb hby at_166) ?_
          show Steps p.tables e below (T132.setTop (mkF m 167 _ [(.int (1 : Int32))])) _
          refine XS.goto X132.here hx rfl (pc0 := 167) (pc' := 171) rfl (hb hby at_167) (by decide) (by decide) ?_
          show Steps p.tables e below (T132.setTop (mkF m 171 #[.val (.int p1), .val (.int p2), .val (.int p3), .val (.int p4), .val (.int p5), .val (.int (f1 (1 : Int32) (p1 &&& (2147483647 : Int32)))), .val (.int (f1 (1 : Int32) (p2 &&& (2147483647 : Int32)))), .val (.int (f1 (1 : Int32) (p3 &&& (2147483647 : Int32)))), .val (.int (f1 (1 : Int32) (p2 &&& (2147483647 : Int32)))), .val (.ref b88), .val (.ref b94), .val (.int (0 : Int32))] [(.int (1 : Int32))])) _
          exact retN X132 hx (t := .boolean) Bd.returns (by simp) (hb hby at_171) hr
        · show Q0 Z p1 p2 p3 p4 p5 w_cache cl_w h0 n0 _ T132.heap _
          rw [e132]
          exact ⟨congrArg (fun z => some (Value.int z)) (by rw [f0, if_pos hc9, if_neg hc12, if_neg hc102] : f0 p1 p2 p3 p4 p5 w_cache cl_w = (1 : Int32)).symm, N132⟩
  · skip
    have pre141 : ∀ t, Steps p.tables e below (T7.setTop (mkF m 46 #[.val (.int p1), .val (.int p2), .val (.int p3), .val (.int p4), .val (.int p5), .val (.int (f1 (1 : Int32) (p1 &&& (2147483647 : Int32)))), .val (.int (f1 (1 : Int32) (p2 &&& (2147483647 : Int32)))), .val (.int (f1 (1 : Int32) (p1 &&& (2147483647 : Int32)))), .unset, .unset, .unset, .unset] [(.int (p5 &&& (2 : Int32)))])) t → Steps p.tables e below (s₁.setTop (entryFrame m #[(.int p1), (.int p2), (.int p3), (.int p4), (.int p5)] maxLocals)) t := fun t kt => by
      refine pre8 _ ?_
      show Steps p.tables e below (T7.setTop (mkF m 24 #[.val (.int p1), .val (.int p2), .val (.int p3), .val (.int p4), .val (.int p5), .val (.int (f1 (1 : Int32) (p1 &&& (2147483647 : Int32)))), .val (.int (f1 (1 : Int32) (p2 &&& (2147483647 : Int32)))), .unset, .unset, .unset, .unset, .unset] [(.int (p5 &&& (1 : Int32)))])) _
      refine XS.ifNo X7.here hx rfl (hb hby at_24) rfl ((if0 _ _).trans (feq hc9).1) ?_
      show Steps p.tables e below (T7.setTop (mkF m 27 _ [])) _
      refine XS.iload X7.here hx rfl (hb hby at_27) rfl ?_
      show Steps p.tables e below (T7.setTop (mkF m 29 _ [(.int (f1 (1 : Int32) (p1 &&& (2147483647 : Int32))))])) _
      refine XS.goto X7.here hx rfl (pc0 := 29) (pc' := 40) rfl (hb hby at_29) (by decide) (by decide) ?_
      show Steps p.tables e below (T7.setTop (mkF m 40 _ [(.int (f1 (1 : Int32) (p1 &&& (2147483647 : Int32))))])) _
      refine XS.istore X7.here hx rfl (hb hby at_40) rfl (l' := #[.val (.int p1), .val (.int p2), .val (.int p3), .val (.int p4), .val (.int p5), .val (.int (f1 (1 : Int32) (p1 &&& (2147483647 : Int32)))), .val (.int (f1 (1 : Int32) (p2 &&& (2147483647 : Int32)))), .val (.int (f1 (1 : Int32) (p1 &&& (2147483647 : Int32)))), .unset, .unset, .unset, .unset]) rfl ?_
      show Steps p.tables e below (T7.setTop (mkF m 42 _ [])) _
      refine XS.iload X7.here hx rfl (hb hby at_42) rfl ?_
      show Steps p.tables e below (T7.setTop (mkF m 44 _ [(.int p5)])) _
      refine XS.iconst X7.here hx rfl (hb hby at_44) ?_
      show Steps p.tables e below (T7.setTop (mkF m 45 _ [(.int (2 : Int32)), (.int p5)])) _
      refine XS.iand X7.here hx rfl (hb hby at_45) rfl ?_
      exact kt
    by_cases hc142 : (p5 &&& (2 : Int32)) = (0 : Int32)
    · skip
      obtain ⟨_, _, ⟨T143, L143, k143, n143⟩, -, X143, ⟨Lc143, hQ143, l143, y143, z143⟩, st143⟩ := Jvm.LawKit.callS X7 hx (y := (⟨"java/lang/Math", "max", "(II)I"⟩ : MethodName)) hown (mvT hZ (hw _ (List.mem_of_getElem? (i := 1) rfl))) (mvT hZ (hw _ (List.mem_of_getElem? (i := 2) rfl))) (mvT hZ (hw _ (List.mem_of_getElem? (i := 3) rfl))) (mvT hZ (hw _ (List.mem_of_getElem? (i := 4) rfl))) (by decide) (backOf (W := 0) (rm1 l Z a0 hw [] (1 : Int32) (p4 &&& (2147483647 : Int32)) h0 n0 Z0 ) hZ (hw _ (List.mem_of_getElem? (i := 4) rfl)) (hw _ (List.mem_of_getElem? (i := 3) rfl)) (by decide) (by decide)) (g := (mkF m 59 #[.val (.int p1), .val (.int p2), .val (.int p3), .val (.int p4), .val (.int p5), .val (.int (f1 (1 : Int32) (p1 &&& (2147483647 : Int32)))), .val (.int (f1 (1 : Int32) (p2 &&& (2147483647 : Int32)))), .val (.int (f1 (1 : Int32) (p1 &&& (2147483647 : Int32)))), .unset, .unset, .unset, .unset] [(.int (p4 &&& (2147483647 : Int32))), (.int (1 : Int32))])) rfl (by rw [hml]; rfl) (argsL := [(.int (1 : Int32)), (.int (p4 &&& (2147483647 : Int32)))]) (rest := []) (lenOf pd_0_0 rfl) rfl (by show 2 * 0 + _ ≤ _; exact Nat.le_of_eq rfl) (hb hby at_59) (fun _ _ => ⟨rfl, e7, (by decide : 0 + 0 ≤ _), (by decide : 0 + 0 ≤ _)⟩)
      dsimp only [Pt.U, Pt.locs, Pt.cells, Pt.slots] at X143 l143 y143 z143 st143 hQ143
      subst l143 y143 z143
      obtain ⟨rfl, N143q, e143⟩ := hQ143
      have N143 := Fr.app N7 N143q
      obtain ⟨T144, h144, X144, e144, E144, A144, D144, -, st144⟩ := newO X143 hx hZ hown (hw _ (List.mem_of_getElem? (i := 5) rfl)) (hw _ (List.mem_of_getElem? (i := 6) rfl)) (hw _ (List.mem_of_getElem? (i := 7) rfl)) e143 (g := (mkF m 64 #[.val (.int p1), .val (.int p2), .val (.int p3), .val (.int p4), .val (.int p5), .val (.int (f1 (1 : Int32) (p1 &&& (2147483647 : Int32)))), .val (.int (f1 (1 : Int32) (p2 &&& (2147483647 : Int32)))), .val (.int (f1 (1 : Int32) (p1 &&& (2147483647 : Int32)))), .val (.int (f1 (1 : Int32) (p4 &&& (2147483647 : Int32)))), .unset, .unset, .unset] [])) rfl (hb hby at_64) (by decide) (by decide)
      obtain ⟨b144, g144⟩ : ∃ z, z = h0.size := ⟨_, rfl⟩
      rw [← g144] at A144 D144 st144
      have g_b144 : n0 ≤ b144 := Nat.le_trans Z0 (Nat.le_of_eq g144.symm)
      have F_line_b144 : Fld Z h144 b144 "com/example/neat_contract/neatcontract/document/Position" "line" "I" (.int (0 : Int32)) := D144 (Or.inr (hw _ (List.mem_of_getElem? (i := 15) rfl))) (ty := .int) (by decide)
      have F_column_b144 : Fld Z h144 b144 "com/example/neat_contract/neatcontract/document/Position" "column" "I" (.int (0 : Int32)) := D144 (Or.inr (hw _ (List.mem_of_getElem? (i := 17) rfl))) (ty := .int) (by decide)
      have Od146 := (O0.ext E144)
      have Zs147 : n0 ≤ h144.size := (Nat.le_trans Z0 E144.1)
      obtain ⟨_, _, ⟨T145, L145, k145, n145⟩, -, X145, ⟨Lc145, hQ145, l145, y145, z145⟩, st145⟩ := X144.specialBack hx (y := (⟨"com/example/neat_contract/neatcontract/document/Position", "<init>", "(II)V"⟩ : MethodName)) rfl hown (mvT hZ (hw _ (List.mem_of_getElem? (i := 8) rfl))) (mvT hZ (hw _ (List.mem_of_getElem? (i := 9) rfl))) (mvT hZ (hw _ (List.mem_of_getElem? (i := 10) rfl))) (by decide) (backOf (W := 1) (rm2 l Z a0 hw [] b144 (f1 (1 : Int32) (p1 &&& (2147483647 : Int32))) (f1 (1 : Int32) (p2 &&& (2147483647 : Int32))) (.int (0 : Int32)) (.int (0 : Int32)) h144 n0 Zs147 (own_max _) (own_max _) A144 F_line_b144 F_column_b144 g_b144) hZ (hw _ (List.mem_of_getElem? (i := 10) rfl)) (hw _ (List.mem_of_getElem? (i := 7) rfl)) (by decide) (by decide)) (g := (mkF m 72 #[.val (.int p1), .val (.int p2), .val (.int p3), .val (.int p4), .val (.int p5), .val (.int (f1 (1 : Int32) (p1 &&& (2147483647 : Int32)))), .val (.int (f1 (1 : Int32) (p2 &&& (2147483647 : Int32)))), .val (.int (f1 (1 : Int32) (p1 &&& (2147483647 : Int32)))), .val (.int (f1 (1 : Int32) (p4 &&& (2147483647 : Int32)))), .unset, .unset, .unset] [(.int (f1 (1 : Int32) (p2 &&& (2147483647 : Int32)))), (.int (f1 (1 : Int32) (p1 &&& (2147483647 : Int32)))), (.ref b144), (.ref b144)])) rfl (by rw [hml]; rfl) (Steps.refl _) (a := b144) (argsL := [(.int (f1 (1 : Int32) (p1 &&& (2147483647 : Int32)))), (.int (f1 (1 : Int32) (p2 &&& (2147483647 : Int32))))]) (rest := [(.ref b144)]) (lenOf pd_0_1 rfl) rfl (by show 2 * 0 + _ ≤ _; exact Nat.le_of_eq rfl) (hb hby at_72) (fun _ _ => ⟨rfl, e144, (by decide : 1 + 0 ≤ _), (by decide : 2 + 0 ≤ _)⟩)
      dsimp only [Pt.U, Pt.locs, Pt.cells, Pt.slots] at X145 l145 y145 z145 st145 hQ145
      subst l145 y145 z145
      obtain ⟨rfl, N145q, Kp145, qp145_0, qp145_1, qp145_2⟩ := hQ145
      have N145 := Fr.app N143 N145q
      have Od148 := (Od146.keep Kp145 (allS g_b144 all0))
      have Zs149 : n0 ≤ T145.heap.size := (Nat.le_trans Zs147 Kp145.1)
      obtain ⟨T150, h150, X150, e150, E150, A150, D150, -, st150⟩ := newO X145 hx hZ hown (hw _ (List.mem_of_getElem? (i := 5) rfl)) (hw _ (List.mem_of_getElem? (i := 6) rfl)) (hw _ (List.mem_of_getElem? (i := 7) rfl)) rfl (g := (mkF m 77 #[.val (.int p1), .val (.int p2), .val (.int p3), .val (.int p4), .val (.int p5), .val (.int (f1 (1 : Int32) (p1 &&& (2147483647 : Int32)))), .val (.int (f1 (1 : Int32) (p2 &&& (2147483647 : Int32)))), .val (.int (f1 (1 : Int32) (p1 &&& (2147483647 : Int32)))), .val (.int (f1 (1 : Int32) (p4 &&& (2147483647 : Int32)))), .val (.ref b144), .unset, .unset] [])) rfl (hb hby at_77) (by decide) (by decide)
      obtain ⟨b150, g150⟩ : ∃ z, z = T145.heap.size := ⟨_, rfl⟩
      rw [← g150] at A150 D150 st150
      have g_b150 : n0 ≤ b150 := Nat.le_trans Zs149 (Nat.le_of_eq g150.symm)
      have ne_b144_b150 : b144 ≠ b150 := Nat.ne_of_lt (Nat.lt_of_lt_of_le qp145_0.lt (Nat.le_of_eq g150.symm))
      have F_line_b150 : Fld Z h150 b150 "com/example/neat_contract/neatcontract/document/Position" "line" "I" (.int (0 : Int32)) := D150 (Or.inr (hw _ (List.mem_of_getElem? (i := 15) rfl))) (ty := .int) (by decide)
      have F_column_b150 : Fld Z h150 b150 "com/example/neat_contract/neatcontract/document/Position" "column" "I" (.int (0 : Int32)) := D150 (Or.inr (hw _ (List.mem_of_getElem? (i := 17) rfl))) (ty := .int) (by decide)
      have F152 := (qp145_1.ext E150)
      have F153 := (qp145_2.ext E150)
      have Ex154 := (qp145_0.ext E150)
      have Od155 := (Od148.ext E150)
      have Zs156 : n0 ≤ h150.size := (Nat.le_trans Zs149 E150.1)
      obtain ⟨_, _, ⟨T151, L151, k151, n151⟩, -, X151, ⟨Lc151, hQ151, l151, y151, z151⟩, st151⟩ := X150.specialBack hx (y := (⟨"com/example/neat_contract/neatcontract/document/Position", "<init>", "(II)V"⟩ : MethodName)) rfl hown (mvT hZ (hw _ (List.mem_of_getElem? (i := 8) rfl))) (mvT hZ (hw _ (List.mem_of_getElem? (i := 9) rfl))) (mvT hZ (hw _ (List.mem_of_getElem? (i := 10) rfl))) (by decide) (backOf (W := 1) (rm2 l Z a0 hw [] b150 (f1 (1 : Int32) (p1 &&& (2147483647 : Int32))) (f1 (1 : Int32) (p4 &&& (2147483647 : Int32))) (.int (0 : Int32)) (.int (0 : Int32)) h150 n0 Zs156 (own_max _) (own_max _) A150 F_line_b150 F_column_b150 g_b150) hZ (hw _ (List.mem_of_getElem? (i := 10) rfl)) (hw _ (List.mem_of_getElem? (i := 7) rfl)) (by decide) (by decide)) (g := (mkF m 85 #[.val (.int p1), .val (.int p2), .val (.int p3), .val (.int p4), .val (.int p5), .val (.int (f1 (1 : Int32) (p1 &&& (2147483647 : Int32)))), .val (.int (f1 (1 : Int32) (p2 &&& (2147483647 : Int32)))), .val (.int (f1 (1 : Int32) (p1 &&& (2147483647 : Int32)))), .val (.int (f1 (1 : Int32) (p4 &&& (2147483647 : Int32)))), .val (.ref b144), .unset, .unset] [(.int (f1 (1 : Int32) (p4 &&& (2147483647 : Int32)))), (.int (f1 (1 : Int32) (p1 &&& (2147483647 : Int32)))), (.ref b150), (.ref b150)])) rfl (by rw [hml]; rfl) (Steps.refl _) (a := b150) (argsL := [(.int (f1 (1 : Int32) (p1 &&& (2147483647 : Int32)))), (.int (f1 (1 : Int32) (p4 &&& (2147483647 : Int32))))]) (rest := [(.ref b150)]) (lenOf pd_0_1 rfl) rfl (by show 2 * 0 + _ ≤ _; exact Nat.le_of_eq rfl) (hb hby at_85) (fun _ _ => ⟨rfl, e150, (by decide : 2 + 0 ≤ _), (by decide : 4 + 0 ≤ _)⟩)
      dsimp only [Pt.U, Pt.locs, Pt.cells, Pt.slots] at X151 l151 y151 z151 st151 hQ151
      subst l151 y151 z151
      obtain ⟨rfl, N151q, Kp151, qp151_0, qp151_1, qp151_2⟩ := hQ151
      have N151 := Fr.app N145 N151q
      have pre157 : ∀ t, Steps p.tables e below (T151.setTop (mkF m 101 #[.val (.int p1), .val (.int p2), .val (.int p3), .val (.int p4), .val (.int p5), .val (.int (f1 (1 : Int32) (p1 &&& (2147483647 : Int32)))), .val (.int (f1 (1 : Int32) (p2 &&& (2147483647 : Int32)))), .val (.int (f1 (1 : Int32) (p1 &&& (2147483647 : Int32)))), .val (.int (f1 (1 : Int32) (p4 &&& (2147483647 : Int32)))), .val (.ref b144), .val (.ref b150), .unset] [(.int (f1 (1 : Int32) (p4 &&& (2147483647 : Int32)))), (.int (f1 (1 : Int32) (p2 &&& (2147483647 : Int32))))])) t → Steps p.tables e below (s₁.setTop (entryFrame m #[(.int p1), (.int p2), (.int p3), (.int p4), (.int p5)] maxLocals)) t := fun t kt => by
        refine pre141 _ ?_
        show Steps p.tables e below (T7.setTop (mkF m 46 #[.val (.int p1), .val (.int p2), .val (.int p3), .val (.int p4), .val (.int p5), .val (.int (f1 (1 : Int32) (p1 &&& (2147483647 : Int32)))), .val (.int (f1 (1 : Int32) (p2 &&& (2147483647 : Int32)))), .val (.int (f1 (1 : Int32) (p1 &&& (2147483647 : Int32)))), .unset, .unset, .unset, .unset] [(.int (p5 &&& (2 : Int32)))])) _
        refine XS.ifYes X7.here hx rfl (pc0 := 46) (pc' := 54) rfl (hb hby at_46) rfl ((if0 _ _).trans (teq hc142).1) (by decide) (by decide) ?_
        show Steps p.tables e below (T7.setTop (mkF m 54 _ [])) _
        refine XS.iconst X7.here hx rfl (hb hby at_54) ?_
        show Steps p.tables e below (T7.setTop (mkF m 55 _ [(.int (1 : Int32))])) _
        refine XS.iloadN X7.here hx rfl (hb hby at_55) rfl ?_
        show Steps p.tables e below (T7.setTop (mkF m 56 _ [(.int p4), (.int (1 : Int32))])) _
        refine X7.ldcInt hx hown (mvT hZ (hw _ (List.mem_of_getElem? (i := 0) rfl))) (g := (mkF m 56 #[.val (.int p1), .val (.int p2), .val (.int p3), .val (.int p4), .val (.int p5), .val (.int (f1 (1 : Int32) (p1 &&& (2147483647 : Int32)))), .val (.int (f1 (1 : Int32) (p2 &&& (2147483647 : Int32)))), .val (.int (f1 (1 : Int32) (p1 &&& (2147483647 : Int32)))), .unset, .unset, .unset, .unset] [(.int p4), (.int (1 : Int32))])) rfl (hb hby at_56) _ ?_
        show Steps p.tables e below (T7.setTop (mkF m 58 _ [(.int (2147483647 : Int32)), (.int p4), (.int (1 : Int32))])) _
        refine XS.iand X7.here hx rfl (hb hby at_58) rfl ?_
        show Steps p.tables e below (T7.setTop (mkF m 59 _ [(.int (p4 &&& (2147483647 : Int32))), (.int (1 : Int32))])) _
        refine st143 _ ?_
        show Steps p.tables e below (T143.setTop (mkF m 62 _ [(.int (f1 (1 : Int32) (p4 &&& (2147483647 : Int32))))])) _
        refine XS.istore X143.here hx rfl (hb hby at_62) rfl (l' := #[.val (.int p1), .val (.int p2), .val (.int p3), .val (.int p4), .val (.int p5), .val (.int (f1 (1 : Int32) (p1 &&& (2147483647 : Int32)))), .val (.int (f1 (1 : Int32) (p2 &&& (2147483647 : Int32)))), .val (.int (f1 (1 : Int32) (p1 &&& (2147483647 : Int32)))), .val (.int (f1 (1 : Int32) (p4 &&& (2147483647 : Int32)))), .unset, .unset, .unset]) rfl ?_
        show Steps p.tables e below (T143.setTop (mkF m 64 _ [])) _
        refine st144 _ ?_
        show Steps p.tables e below (T144.setTop (mkF m 67 _ [(.ref b144)])) _
        refine XS.dup X144.here hx rfl (hb hby at_67) rfl rfl ?_
        show Steps p.tables e below (T144.setTop (mkF m 68 _ [(.ref b144), (.ref b144)])) _
        refine XS.iload X144.here hx rfl (hb hby at_68) rfl ?_
        show Steps p.tables e below (T144.setTop (mkF m 70 _ [(.int (f1 (1 : Int32) (p1 &&& (2147483647 : Int32)))), (.ref b144), (.ref b144)])) _
        refine XS.iload X144.here hx rfl (hb hby at_70) rfl ?_
        show Steps p.tables e below (T144.setTop (mkF m 72 _ [(.int (f1 (1 : Int32) (p2 &&& (2147483647 : Int32)))), (.int (f1 (1 : Int32) (p1 &&& (2147483647 : Int32)))), (.ref b144), (.ref b144)])) _
        refine st145.trans ?_
        show Steps p.tables e below (T145.setTop (mkF m 75 _ [(.ref b144)])) _
        refine XS.astore X145.here hx rfl (hb hby at_75) rfl rfl (l' := #[.val (.int p1), .val (.int p2), .val (.int p3), .val (.int p4), .val (.int p5), .val (.int (f1 (1 : Int32) (p1 &&& (2147483647 : Int32)))), .val (.int (f1 (1 : Int32) (p2 &&& (2147483647 : Int32)))), .val (.int (f1 (1 : Int32) (p1 &&& (2147483647 : Int32)))), .val (.int (f1 (1 : Int32) (p4 &&& (2147483647 : Int32)))), .val (.ref b144), .unset, .unset]) rfl ?_
        show Steps p.tables e below (T145.setTop (mkF m 77 _ [])) _
        refine st150 _ ?_
        show Steps p.tables e below (T150.setTop (mkF m 80 _ [(.ref b150)])) _
        refine XS.dup X150.here hx rfl (hb hby at_80) rfl rfl ?_
        show Steps p.tables e below (T150.setTop (mkF m 81 _ [(.ref b150), (.ref b150)])) _
        refine XS.iload X150.here hx rfl (hb hby at_81) rfl ?_
        show Steps p.tables e below (T150.setTop (mkF m 83 _ [(.int (f1 (1 : Int32) (p1 &&& (2147483647 : Int32)))), (.ref b150), (.ref b150)])) _
        refine XS.iload X150.here hx rfl (hb hby at_83) rfl ?_
        show Steps p.tables e below (T150.setTop (mkF m 85 _ [(.int (f1 (1 : Int32) (p4 &&& (2147483647 : Int32)))), (.int (f1 (1 : Int32) (p1 &&& (2147483647 : Int32)))), (.ref b150), (.ref b150)])) _
        refine st151.trans ?_
        show Steps p.tables e below (T151.setTop (mkF m 88 _ [(.ref b150)])) _
        refine XS.astore X151.here hx rfl (hb hby at_88) rfl rfl (l' := #[.val (.int p1), .val (.int p2), .val (.int p3), .val (.int p4), .val (.int p5), .val (.int (f1 (1 : Int32) (p1 &&& (2147483647 : Int32)))), .val (.int (f1 (1 : Int32) (p2 &&& (2147483647 : Int32)))), .val (.int (f1 (1 : Int32) (p1 &&& (2147483647 : Int32)))), .val (.int (f1 (1 : Int32) (p4 &&& (2147483647 : Int32)))), .val (.ref b144), .val (.ref b150), .unset]) rfl ?_
        show Steps p.tables e below (T151.setTop (mkF m 90 _ [])) _
        refine XS.iload X151.here hx rfl (hb hby at_90) rfl ?_
        show Steps p.tables e below (T151.setTop (mkF m 92 _ [(.int (f1 (1 : Int32) (p1 &&& (2147483647 : Int32))))])) _
        refine XS.iload X151.here hx rfl (hb hby at_92) rfl ?_
        show Steps p.tables e below (T151.setTop (mkF m 94 _ [(.int (f1 (1 : Int32) (p1 &&& (2147483647 : Int32)))), (.int (f1 (1 : Int32) (p1 &&& (2147483647 : Int32))))])) _
        refine XS.icmpNo X151.here hx rfl (hb hby at_94) rfl (teq rfl).2 ?_
        show Steps p.tables e below (T151.setTop (mkF m 97 _ [])) _
        refine XS.iload X151.here hx rfl (hb hby at_97) rfl ?_
        show Steps p.tables e below (T151.setTop (mkF m 99 _ [(.int (f1 (1 : Int32) (p2 &&& (2147483647 : Int32))))])) _
        refine XS.iload X151.here hx rfl (hb hby at_99) rfl ?_
        exact kt
      by_cases hc158 : (f1 (1 : Int32) (p2 &&& (2147483647 : Int32))) = (f1 (1 : Int32) (p4 &&& (2147483647 : Int32)))
      · skip
        have F160 := (F152.keep Kp151 (ninS ne_b144_b150 nin0))
        have F161 := (F153.keep Kp151 (ninS ne_b144_b150 nin0))
        have Ex162 := (Ex154.keep Kp151)
        have Od163 := (Od155.keep Kp151 (allS g_b150 all0))
        have Zs164 : n0 ≤ T151.heap.size := (Nat.le_trans Zs156 Kp151.1)
        obtain ⟨cq159, kq159, q159a, q159b, q159c⟩ := isOf hZ rfl Ex162
        obtain ⟨_, _, ⟨T159, L159, k159, n159⟩, -, X159, ⟨Lc159, hQ159, l159, y159, z159⟩, st159⟩ := X151.virtualBack hx (y := (⟨"com/example/neat_contract/neatcontract/document/Position", "equals", "(Ljava/lang/Object;)Z"⟩ : MethodName)) (z := (⟨"com/example/neat_contract/neatcontract/document/Position", "equals", "(Ljava/lang/Object;)Z"⟩ : MethodName)) hown (mvT hZ (hw _ (List.mem_of_getElem? (i := 18) rfl))) (mvT hZ (hw _ (List.mem_of_getElem? (i := 19) rfl))) (notFace_of_selects (args := #[]) (mvT hZ (hw _ (List.mem_of_getElem? (i := 21) rfl)))) (mvT hZ (hw _ (List.mem_of_getElem? (i := 21) rfl))) (mvT hZ (hw _ (List.mem_of_getElem? (i := 20) rfl))) (by decide) (backOf (W := 0) (rm4 l Z a0 hw [] b144 b150 (f1 (1 : Int32) (p1 &&& (2147483647 : Int32))) (f1 (1 : Int32) (p1 &&& (2147483647 : Int32))) (f1 (1 : Int32) (p2 &&& (2147483647 : Int32))) (f1 (1 : Int32) (p4 &&& (2147483647 : Int32))) T151.heap n0 Zs164 qp151_0 F160 qp151_1 F161 qp151_2) hZ (hw _ (List.mem_of_getElem? (i := 22) rfl)) (hw _ (List.mem_of_getElem? (i := 7) rfl)) (by decide) (by decide)) q159a q159c (g := (mkF m 115 #[.val (.int p1), .val (.int p2), .val (.int p3), .val (.int p4), .val (.int p5), .val (.int (f1 (1 : Int32) (p1 &&& (2147483647 : Int32)))), .val (.int (f1 (1 : Int32) (p2 &&& (2147483647 : Int32)))), .val (.int (f1 (1 : Int32) (p1 &&& (2147483647 : Int32)))), .val (.int (f1 (1 : Int32) (p4 &&& (2147483647 : Int32)))), .val (.ref b144), .val (.ref b150), .val (.int (1 : Int32))] [(.ref b150), (.ref b144)])) rfl (by rw [hml]; rfl) (Steps.refl _) (argsL := [(.ref b150)]) (rest := []) (lenOf pd_0_3 rfl) rfl (by show 2 * 0 + _ ≤ _; exact Nat.le_of_eq rfl) (hb hby at_115) (fun _ _ => ⟨rfl, rfl, (by decide : 2 + 0 ≤ _), (by decide : 4 + 0 ≤ _)⟩)
        dsimp only [Pt.U, Pt.locs, Pt.cells, Pt.slots] at X159 l159 y159 z159 st159 hQ159
        subst l159 y159 z159
        obtain ⟨rfl, N159q, e159⟩ := hQ159
        have N159 := Fr.app N151 N159q
        obtain ⟨cq165, kq165, q165a, q165b, q165c⟩ := isOf hZ e159 qp151_0
        obtain ⟨_, _, ⟨T165, L165, k165, n165⟩, -, X165, ⟨Lc165, hQ165, l165, y165, z165⟩, st165⟩ := X159.virtualBack hx (y := (⟨"com/example/neat_contract/neatcontract/document/Position", "equals", "(Ljava/lang/Object;)Z"⟩ : MethodName)) (z := (⟨"com/example/neat_contract/neatcontract/document/Position", "equals", "(Ljava/lang/Object;)Z"⟩ : MethodName)) hown (mvT hZ (hw _ (List.mem_of_getElem? (i := 18) rfl))) (mvT hZ (hw _ (List.mem_of_getElem? (i := 19) rfl))) (notFace_of_selects (args := #[]) (mvT hZ (hw _ (List.mem_of_getElem? (i := 21) rfl)))) (mvT hZ (hw _ (List.mem_of_getElem? (i := 21) rfl))) (mvT hZ (hw _ (List.mem_of_getElem? (i := 20) rfl))) (by decide) (backOf (W := 0) (rm4 l Z a0 hw [] b150 b144 (f1 (1 : Int32) (p1 &&& (2147483647 : Int32))) (f1 (1 : Int32) (p1 &&& (2147483647 : Int32))) (f1 (1 : Int32) (p4 &&& (2147483647 : Int32))) (f1 (1 : Int32) (p2 &&& (2147483647 : Int32))) T151.heap n0 Zs164 Ex162 qp151_1 F160 qp151_2 F161) hZ (hw _ (List.mem_of_getElem? (i := 22) rfl)) (hw _ (List.mem_of_getElem? (i := 7) rfl)) (by decide) (by decide)) q165a q165c (g := (mkF m 127 #[.val (.int p1), .val (.int p2), .val (.int p3), .val (.int p4), .val (.int p5), .val (.int (f1 (1 : Int32) (p1 &&& (2147483647 : Int32)))), .val (.int (f1 (1 : Int32) (p2 &&& (2147483647 : Int32)))), .val (.int (f1 (1 : Int32) (p1 &&& (2147483647 : Int32)))), .val (.int (f1 (1 : Int32) (p4 &&& (2147483647 : Int32)))), .val (.ref b144), .val (.ref b150), .val (.int (1 : Int32))] [(.ref b144), (.ref b150)])) rfl (by rw [hml]; rfl) (Steps.refl _) (argsL := [(.ref b144)]) (rest := []) (lenOf pd_0_3 rfl) rfl (by show 2 * 0 + _ ≤ _; exact Nat.le_of_eq rfl) (hb hby at_127) (fun _ _ => ⟨rfl, e159, (by decide : 2 + 0 ≤ _), (by decide : 4 + 0 ≤ _)⟩)
        dsimp only [Pt.U, Pt.locs, Pt.cells, Pt.slots] at X165 l165 y165 z165 st165 hQ165
        subst l165 y165 z165
        obtain ⟨rfl, N165q, e165⟩ := hQ165
        have N165 := Fr.app N159 N165q
        obtain ⟨cq166, kq166, q166a, q166b, q166c⟩ := isOf hZ e165 Ex162
        obtain ⟨_, _, ⟨T166, L166, k166, n166⟩, -, X166, ⟨Lc166, hQ166, l166, y166, z166⟩, st166⟩ := X165.virtualBack hx (y := (⟨"com/example/neat_contract/neatcontract/document/Position", "equals", "(Ljava/lang/Object;)Z"⟩ : MethodName)) (z := (⟨"com/example/neat_contract/neatcontract/document/Position", "equals", "(Ljava/lang/Object;)Z"⟩ : MethodName)) hown (mvT hZ (hw _ (List.mem_of_getElem? (i := 18) rfl))) (mvT hZ (hw _ (List.mem_of_getElem? (i := 19) rfl))) (notFace_of_selects (args := #[]) (mvT hZ (hw _ (List.mem_of_getElem? (i := 21) rfl)))) (mvT hZ (hw _ (List.mem_of_getElem? (i := 21) rfl))) (mvT hZ (hw _ (List.mem_of_getElem? (i := 20) rfl))) (by decide) (backOf (W := 0) (rm4 l Z a0 hw [] b144 b144 (f1 (1 : Int32) (p1 &&& (2147483647 : Int32))) (f1 (1 : Int32) (p1 &&& (2147483647 : Int32))) (f1 (1 : Int32) (p2 &&& (2147483647 : Int32))) (f1 (1 : Int32) (p2 &&& (2147483647 : Int32))) T151.heap n0 Zs164 Ex162 F160 F160 F161 F161) hZ (hw _ (List.mem_of_getElem? (i := 22) rfl)) (hw _ (List.mem_of_getElem? (i := 7) rfl)) (by decide) (by decide)) q166a q166c (g := (mkF m 139 #[.val (.int p1), .val (.int p2), .val (.int p3), .val (.int p4), .val (.int p5), .val (.int (f1 (1 : Int32) (p1 &&& (2147483647 : Int32)))), .val (.int (f1 (1 : Int32) (p2 &&& (2147483647 : Int32)))), .val (.int (f1 (1 : Int32) (p1 &&& (2147483647 : Int32)))), .val (.int (f1 (1 : Int32) (p4 &&& (2147483647 : Int32)))), .val (.ref b144), .val (.ref b150), .val (.int (1 : Int32))] [(.ref b144), (.ref b144)])) rfl (by rw [hml]; rfl) (Steps.refl _) (argsL := [(.ref b144)]) (rest := []) (lenOf pd_0_3 rfl) rfl (by show 2 * 0 + _ ≤ _; exact Nat.le_of_eq rfl) (hb hby at_139) (fun _ _ => ⟨rfl, e165, (by decide : 2 + 0 ≤ _), (by decide : 4 + 0 ≤ _)⟩)
        dsimp only [Pt.U, Pt.locs, Pt.cells, Pt.slots] at X166 l166 y166 z166 st166 hQ166
        subst l166 y166 z166
        obtain ⟨rfl, N166q, e166⟩ := hQ166
        have N166 := Fr.app N165 N166q
        obtain ⟨cq167, kq167, q167a, q167b, q167c⟩ := isOf hZ e166 Ex162
        obtain ⟨_, _, ⟨T167, L167, k167, n167⟩, -, X167, ⟨Lc167, hQ167, l167, y167, z167⟩, st167⟩ := X166.virtualBack hx (y := (⟨"com/example/neat_contract/neatcontract/document/Position", "equals", "(Ljava/lang/Object;)Z"⟩ : MethodName)) (z := (⟨"com/example/neat_contract/neatcontract/document/Position", "equals", "(Ljava/lang/Object;)Z"⟩ : MethodName)) hown (mvT hZ (hw _ (List.mem_of_getElem? (i := 18) rfl))) (mvT hZ (hw _ (List.mem_of_getElem? (i := 19) rfl))) (notFace_of_selects (args := #[]) (mvT hZ (hw _ (List.mem_of_getElem? (i := 21) rfl)))) (mvT hZ (hw _ (List.mem_of_getElem? (i := 21) rfl))) (mvT hZ (hw _ (List.mem_of_getElem? (i := 20) rfl))) (by decide) (backOf (W := 0) (rm104 l Z a0 hw [] b144 T151.heap n0 Zs164 ) hZ (hw _ (List.mem_of_getElem? (i := 22) rfl)) (hw _ (List.mem_of_getElem? (i := 7) rfl)) (by decide) (by decide)) q167a q167c (g := (mkF m 148 #[.val (.int p1), .val (.int p2), .val (.int p3), .val (.int p4), .val (.int p5), .val (.int (f1 (1 : Int32) (p1 &&& (2147483647 : Int32)))), .val (.int (f1 (1 : Int32) (p2 &&& (2147483647 : Int32)))), .val (.int (f1 (1 : Int32) (p1 &&& (2147483647 : Int32)))), .val (.int (f1 (1 : Int32) (p4 &&& (2147483647 : Int32)))), .val (.ref b144), .val (.ref b150), .val (.int (1 : Int32))] [.null, (.ref b144)])) rfl (by rw [hml]; rfl) (Steps.refl _) (argsL := [.null]) (rest := []) (lenOf pd_0_3 rfl) rfl (by show 2 * 0 + _ ≤ _; exact Nat.le_of_eq rfl) (hb hby at_148) (fun _ _ => ⟨rfl, e166, (by decide : 2 + 0 ≤ _), (by decide : 4 + 0 ≤ _)⟩)
        dsimp only [Pt.U, Pt.locs, Pt.cells, Pt.slots] at X167 l167 y167 z167 st167 hQ167
        subst l167 y167 z167
        obtain ⟨rfl, N167q, e167⟩ := hQ167
        have N167 := Fr.app N166 N167q
        obtain ⟨_, _, ⟨T168, L168, k168, n168⟩, -, X168, ⟨Lc168, hQ168, l168, y168, z168⟩, st168⟩ := Jvm.LawKit.callS X167 hx (y := (⟨"java/lang/Integer", "valueOf", "(I)Ljava/lang/Integer;"⟩ : MethodName)) hown (mvT hZ (hw _ (List.mem_of_getElem? (i := 25) rfl))) (mvT hZ (hw _ (List.mem_of_getElem? (i := 26) rfl))) (mvT hZ (hw _ (List.mem_of_getElem? (i := 27) rfl))) (mvT hZ (hw _ (List.mem_of_getElem? (i := 28) rfl))) (by decide) (backOf (W := 1) (rm5 l Z a0 hw [] p1 w_cache cl_w T151.heap n0 Zs164 AR hsz hel Od163 (Sz_high.ext Od163.2) (Sz_cache.ext Od163.2)) hZ (hw _ (List.mem_of_getElem? (i := 28) rfl)) (hw _ (List.mem_of_getElem? (i := 27) rfl)) (by decide) (by decide)) (g := (mkF m 157 #[.val (.int p1), .val (.int p2), .val (.int p3), .val (.int p4), .val (.int p5), .val (.int (f1 (1 : Int32) (p1 &&& (2147483647 : Int32)))), .val (.int (f1 (1 : Int32) (p2 &&& (2147483647 : Int32)))), .val (.int (f1 (1 : Int32) (p1 &&& (2147483647 : Int32)))), .val (.int (f1 (1 : Int32) (p4 &&& (2147483647 : Int32)))), .val (.ref b144), .val (.ref b150), .val (.int (1 : Int32))] [(.int p1), (.ref b144)])) rfl (by rw [hml]; rfl) (argsL := [(.int p1)]) (rest := [(.ref b144)]) (lenOf pd_0_4 rfl) rfl (by show 2 * 0 + _ ≤ _; exact Nat.le_of_eq rfl) (hb hby at_157) (fun _ _ => ⟨rfl, e167, (by decide : 2 + 1 ≤ _), (by decide : 4 + 1 ≤ _)⟩)
        dsimp only [Pt.U, Pt.locs, Pt.cells, Pt.slots] at X168 l168 y168 z168 st168 hQ168
        subst l168 y168 z168
        obtain ⟨r168, rfl, N168q, Kp168, qp168_0⟩ := hQ168
        have N168 := Fr.app N167 N168q
        have F170 := (F160.keep Kp168 nin0)
        have F171 := (F161.keep Kp168 nin0)
        have F172 := (qp151_1.keep Kp168 nin0)
        have F173 := (qp151_2.keep Kp168 nin0)
        have Ex174 := (Ex162.keep Kp168)
        have Ex175 := (qp151_0.keep Kp168)
        have Od176 := (Od163.keep Kp168 all0)
        have Zs177 : n0 ≤ T168.heap.size := (Nat.le_trans Zs164 Kp168.1)
        obtain ⟨cq169, kq169, q169a, q169b, q169c⟩ := isOf hZ rfl Ex174
        obtain ⟨_, _, ⟨T169, L169, k169, n169⟩, -, X169, ⟨Lc169, hQ169, l169, y169, z169⟩, st169⟩ := X168.virtualBack hx (y := (⟨"com/example/neat_contract/neatcontract/document/Position", "equals", "(Ljava/lang/Object;)Z"⟩ : MethodName)) (z := (⟨"com/example/neat_contract/neatcontract/document/Position", "equals", "(Ljava/lang/Object;)Z"⟩ : MethodName)) hown (mvT hZ (hw _ (List.mem_of_getElem? (i := 18) rfl))) (mvT hZ (hw _ (List.mem_of_getElem? (i := 19) rfl))) (notFace_of_selects (args := #[]) (mvT hZ (hw _ (List.mem_of_getElem? (i := 21) rfl)))) (mvT hZ (hw _ (List.mem_of_getElem? (i := 21) rfl))) (mvT hZ (hw _ (List.mem_of_getElem? (i := 20) rfl))) (by decide) (backOf (W := 0) (rm204 l Z a0 hw [] b144 r168 T168.heap n0 Zs177 (own_ni (hw _ (List.mem_of_getElem? (i := 32) rfl)) (hw _ (List.mem_of_getElem? (i := 33) rfl)) (hw _ (List.mem_of_getElem? (i := 34) rfl)) (hw _ (List.mem_of_getElem? (i := 6) rfl)) (by decide) (by decide) (by decide)) qp168_0) hZ (hw _ (List.mem_of_getElem? (i := 22) rfl)) (hw _ (List.mem_of_getElem? (i := 7) rfl)) (by decide) (by decide)) q169a q169c (g := (mkF m 160 #[.val (.int p1), .val (.int p2), .val (.int p3), .val (.int p4), .val (.int p5), .val (.int (f1 (1 : Int32) (p1 &&& (2147483647 : Int32)))), .val (.int (f1 (1 : Int32) (p2 &&& (2147483647 : Int32)))), .val (.int (f1 (1 : Int32) (p1 &&& (2147483647 : Int32)))), .val (.int (f1 (1 : Int32) (p4 &&& (2147483647 : Int32)))), .val (.ref b144), .val (.ref b150), .val (.int (1 : Int32))] [(.ref r168), (.ref b144)])) rfl (by rw [hml]; rfl) (Steps.refl _) (argsL := [(.ref r168)]) (rest := []) (lenOf pd_0_3 rfl) rfl (by show 2 * 0 + _ ≤ _; exact Nat.le_of_eq rfl) (hb hby at_160) (fun _ _ => ⟨rfl, rfl, (by decide : 3 + 0 ≤ _), (by decide : 5 + 0 ≤ _)⟩)
        dsimp only [Pt.U, Pt.locs, Pt.cells, Pt.slots] at X169 l169 y169 z169 st169 hQ169
        subst l169 y169 z169
        obtain ⟨rfl, N169q, e169⟩ := hQ169
        have N169 := Fr.app N168 N169q
        obtain ⟨fs, hr, hrun, hended, hW, hsame⟩ := X169.leave (v := some (.int (1 : Int32))) (fun h => by rw [Bd.returns] at h; cases h) (by first | exact BodyLoose.notSynchronized Bd | exact Body.notSynchronized Bd)
        refine ⟨_, _, pre157 _ ?_, hrun, hended, _, _, rfl, ?_, ⟨_, rfl⟩, hW, hsame.mono (by decide) (by decide)⟩
        · show Steps p.tables e below (T151.setTop (mkF m 101 #[.val (.int p1), .val (.int p2), .val (.int p3), .val (.int p4), .val (.int p5), .val (.int (f1 (1 : Int32) (p1 &&& (2147483647 : Int32)))), .val (.int (f1 (1 : Int32) (p2 &&& (2147483647 : Int32)))), .val (.int (f1 (1 : Int32) (p1 &&& (2147483647 : Int32)))), .val (.int (f1 (1 : Int32) (p4 &&& (2147483647 : Int32)))), .val (.ref b144), .val (.ref b150), .unset] [(.int (f1 (1 : Int32) (p4 &&& (2147483647 : Int32)))), (.int (f1 (1 : Int32) (p2 &&& (2147483647 : Int32))))])) _
          refine XS.icmpNo X151.here hx rfl (hb hby at_101) rfl (teq hc158).2 ?_
          show Steps p.tables e below (T151.setTop (mkF m 104 _ [])) _
          refine XS.iconst X151.here hx rfl (hb hby at_104) ?_
          show Steps p.tables e below (T151.setTop (mkF m 105 _ [(.int (1 : Int32))])) _
          refine XS.goto X151.here hx rfl (pc0 := 105) (pc' := 109) rfl (hb hby at_105) (by decide) (by decide) ?_
          show Steps p.tables e below (T151.setTop (mkF m 109 _ [(.int (1 : Int32))])) _
          refine XS.istore X151.here hx rfl (hb hby at_109) rfl (l' := #[.val (.int p1), .val (.int p2), .val (.int p3), .val (.int p4), .val (.int p5), .val (.int (f1 (1 : Int32) (p1 &&& (2147483647 : Int32)))), .val (.int (f1 (1 : Int32) (p2 &&& (2147483647 : Int32)))), .val (.int (f1 (1 : Int32) (p1 &&& (2147483647 : Int32)))), .val (.int (f1 (1 : Int32) (p4 &&& (2147483647 : Int32)))), .val (.ref b144), .val (.ref b150), .val (.int (1 : Int32))]) rfl ?_
          show Steps p.tables e below (T151.setTop (mkF m 111 _ [])) _
          refine XS.aload X151.here hx rfl (hb hby at_111) rfl rfl ?_
          show Steps p.tables e below (T151.setTop (mkF m 113 _ [(.ref b144)])) _
          refine XS.aload X151.here hx rfl (hb hby at_113) rfl rfl ?_
          show Steps p.tables e below (T151.setTop (mkF m 115 _ [(.ref b150), (.ref b144)])) _
          refine st159.trans ?_
          show Steps p.tables e below (T159.setTop (mkF m 118 _ [(.int (f4 (f1 (1 : Int32) (p1 &&& (2147483647 : Int32))) (f1 (1 : Int32) (p1 &&& (2147483647 : Int32))) (f1 (1 : Int32) (p2 &&& (2147483647 : Int32))) (f1 (1 : Int32) (p4 &&& (2147483647 : Int32)))))])) _
          refine XS.iload X159.here hx rfl (hb hby at_118) rfl ?_
          show Steps p.tables e below (T159.setTop (mkF m 120 _ [(.int (1 : Int32)), (.int (f4 (f1 (1 : Int32) (p1 &&& (2147483647 : Int32))) (f1 (1 : Int32) (p1 &&& (2147483647 : Int32))) (f1 (1 : Int32) (p2 &&& (2147483647 : Int32))) (f1 (1 : Int32) (p4 &&& (2147483647 : Int32)))))])) _
          refine XS.icmpNo X159.here hx rfl (hb hby at_120) rfl (teq (by simp [f4, *])).2 ?_
          show Steps p.tables e below (T159.setTop (mkF m 123 _ [])) _
          refine XS.aload X159.here hx rfl (hb hby at_123) rfl rfl ?_
          show Steps p.tables e below (T159.setTop (mkF m 125 _ [(.ref b150)])) _
          refine XS.aload X159.here hx rfl (hb hby at_125) rfl rfl ?_
          show Steps p.tables e below (T159.setTop (mkF m 127 _ [(.ref b144), (.ref b150)])) _
          refine st165.trans ?_
          show Steps p.tables e below (T165.setTop (mkF m 130 _ [(.int (f4 (f1 (1 : Int32) (p1 &&& (2147483647 : Int32))) (f1 (1 : Int32) (p1 &&& (2147483647 : Int32))) (f1 (1 : Int32) (p4 &&& (2147483647 : Int32))) (f1 (1 : Int32) (p2 &&& (2147483647 : Int32)))))])) _
          refine XS.iload X165.here hx rfl (hb hby at_130) rfl ?_
          show Steps p.tables e below (T165.setTop (mkF m 132 _ [(.int (1 : Int32)), (.int (f4 (f1 (1 : Int32) (p1 &&& (2147483647 : Int32))) (f1 (1 : Int32) (p1 &&& (2147483647 : Int32))) (f1 (1 : Int32) (p4 &&& (2147483647 : Int32))) (f1 (1 : Int32) (p2 &&& (2147483647 : Int32)))))])) _
          refine XS.icmpNo X165.here hx rfl (hb hby at_132) rfl (teq (by rw [own_sym]; simp [f4, *])).2 ?_
          show Steps p.tables e below (T165.setTop (mkF m 135 _ [])) _
          refine XS.aload X165.here hx rfl (hb hby at_135) rfl rfl ?_
          show Steps p.tables e below (T165.setTop (mkF m 137 _ [(.ref b144)])) _
          refine XS.aload X165.here hx rfl (hb hby at_137) rfl rfl ?_
          show Steps p.tables e below (T165.setTop (mkF m 139 _ [(.ref b144), (.ref b144)])) _
          refine st166.trans ?_
          show Steps p.tables e below (T166.setTop (mkF m 142 _ [(.int (f4 (f1 (1 : Int32) (p1 &&& (2147483647 : Int32))) (f1 (1 : Int32) (p1 &&& (2147483647 : Int32))) (f1 (1 : Int32) (p2 &&& (2147483647 : Int32))) (f1 (1 : Int32) (p2 &&& (2147483647 : Int32)))))])) _
          refine XS.ifNo X166.here hx rfl (hb hby at_142) rfl ((if0 _ _).trans (feq (by simp [f4])).1) ?_
          show Steps p.tables e below (T166.setTop (mkF m 145 _ [])) _
          refine XS.aload X166.here hx rfl (hb hby at_145) rfl rfl ?_
          show Steps p.tables e below (T166.setTop (mkF m 147 _ [(.ref b144)])) _
          refine XS.aconstNull X166.here hx rfl (hb hby at_147) ?_
          show Steps p.tables e below (T166.setTop (mkF m 148 _ [.null, (.ref b144)])) _
          refine st167.trans ?_
          show Steps p.tables e below (T167.setTop (mkF m 151 _ [(.int (0 : Int32))])) _
          refine XS.ifNo X167.here hx rfl (hb hby at_151) rfl ((if0 _ _).trans (teq (by decide)).2) ?_
          show Steps p.tables e below (T167.setTop (mkF m 154 _ [])) _
          refine XS.aload X167.here hx rfl (hb hby at_154) rfl rfl ?_
          show Steps p.tables e below (T167.setTop (mkF m 156 _ [(.ref b144)])) _
          refine XS.iloadN X167.here hx rfl (hb hby at_156) rfl ?_
          show Steps p.tables e below (T167.setTop (mkF m 157 _ [(.int p1), (.ref b144)])) _
          refine st168 _ ?_
          show Steps p.tables e below (T168.setTop (mkF m 160 _ [(.ref r168), (.ref b144)])) _
          refine st169.trans ?_
          show Steps p.tables e below (T169.setTop (mkF m 163 _ [(.int (0 : Int32))])) _
          refine XS.ifNo X169.here hx rfl (hb hby at_163) rfl ((if0 _ _).trans (teq (by decide)).2) ?_
          show Steps p.tables e below (T169.setTop (mkF m 166 _ [])) _
          refine XS.iconst X169.here hx rfl (hb hby at_166) ?_
          show Steps p.tables e below (T169.setTop (mkF m 167 _ [(.int (1 : Int32))])) _
          refine XS.goto X169.here hx rfl (pc0 := 167) (pc' := 171) rfl (hb hby at_167) (by decide) (by decide) ?_
          show Steps p.tables e below (T169.setTop (mkF m 171 #[.val (.int p1), .val (.int p2), .val (.int p3), .val (.int p4), .val (.int p5), .val (.int (f1 (1 : Int32) (p1 &&& (2147483647 : Int32)))), .val (.int (f1 (1 : Int32) (p2 &&& (2147483647 : Int32)))), .val (.int (f1 (1 : Int32) (p1 &&& (2147483647 : Int32)))), .val (.int (f1 (1 : Int32) (p4 &&& (2147483647 : Int32)))), .val (.ref b144), .val (.ref b150), .val (.int (1 : Int32))] [(.int (1 : Int32))])) _
          exact retN X169 hx (t := .boolean) Bd.returns (by simp) (hb hby at_171) hr
        · show Q0 Z p1 p2 p3 p4 p5 w_cache cl_w h0 n0 _ T169.heap _
          rw [e169]
          exact ⟨congrArg (fun z => some (Value.int z)) (by rw [f0, if_neg hc9, if_pos hc142, if_pos hc158] : f0 p1 p2 p3 p4 p5 w_cache cl_w = (1 : Int32)).symm, N169⟩
      · skip
        have F179 := (F152.keep Kp151 (ninS ne_b144_b150 nin0))
        have F180 := (F153.keep Kp151 (ninS ne_b144_b150 nin0))
        have Ex181 := (Ex154.keep Kp151)
        have Od182 := (Od155.keep Kp151 (allS g_b150 all0))
        have Zs183 : n0 ≤ T151.heap.size := (Nat.le_trans Zs156 Kp151.1)
        obtain ⟨cq178, kq178, q178a, q178b, q178c⟩ := isOf hZ rfl Ex181
        obtain ⟨_, _, ⟨T178, L178, k178, n178⟩, -, X178, ⟨Lc178, hQ178, l178, y178, z178⟩, st178⟩ := X151.virtualBack hx (y := (⟨"com/example/neat_contract/neatcontract/document/Position", "equals", "(Ljava/lang/Object;)Z"⟩ : MethodName)) (z := (⟨"com/example/neat_contract/neatcontract/document/Position", "equals", "(Ljava/lang/Object;)Z"⟩ : MethodName)) hown (mvT hZ (hw _ (List.mem_of_getElem? (i := 18) rfl))) (mvT hZ (hw _ (List.mem_of_getElem? (i := 19) rfl))) (notFace_of_selects (args := #[]) (mvT hZ (hw _ (List.mem_of_getElem? (i := 21) rfl)))) (mvT hZ (hw _ (List.mem_of_getElem? (i := 21) rfl))) (mvT hZ (hw _ (List.mem_of_getElem? (i := 20) rfl))) (by decide) (backOf (W := 0) (rm4 l Z a0 hw [] b144 b150 (f1 (1 : Int32) (p1 &&& (2147483647 : Int32))) (f1 (1 : Int32) (p1 &&& (2147483647 : Int32))) (f1 (1 : Int32) (p2 &&& (2147483647 : Int32))) (f1 (1 : Int32) (p4 &&& (2147483647 : Int32))) T151.heap n0 Zs183 qp151_0 F179 qp151_1 F180 qp151_2) hZ (hw _ (List.mem_of_getElem? (i := 22) rfl)) (hw _ (List.mem_of_getElem? (i := 7) rfl)) (by decide) (by decide)) q178a q178c (g := (mkF m 115 #[.val (.int p1), .val (.int p2), .val (.int p3), .val (.int p4), .val (.int p5), .val (.int (f1 (1 : Int32) (p1 &&& (2147483647 : Int32)))), .val (.int (f1 (1 : Int32) (p2 &&& (2147483647 : Int32)))), .val (.int (f1 (1 : Int32) (p1 &&& (2147483647 : Int32)))), .val (.int (f1 (1 : Int32) (p4 &&& (2147483647 : Int32)))), .val (.ref b144), .val (.ref b150), .val (.int (0 : Int32))] [(.ref b150), (.ref b144)])) rfl (by rw [hml]; rfl) (Steps.refl _) (argsL := [(.ref b150)]) (rest := []) (lenOf pd_0_3 rfl) rfl (by show 2 * 0 + _ ≤ _; exact Nat.le_of_eq rfl) (hb hby at_115) (fun _ _ => ⟨rfl, rfl, (by decide : 2 + 0 ≤ _), (by decide : 4 + 0 ≤ _)⟩)
        dsimp only [Pt.U, Pt.locs, Pt.cells, Pt.slots] at X178 l178 y178 z178 st178 hQ178
        subst l178 y178 z178
        obtain ⟨rfl, N178q, e178⟩ := hQ178
        have N178 := Fr.app N151 N178q
        obtain ⟨cq184, kq184, q184a, q184b, q184c⟩ := isOf hZ e178 qp151_0
        obtain ⟨_, _, ⟨T184, L184, k184, n184⟩, -, X184, ⟨Lc184, hQ184, l184, y184, z184⟩, st184⟩ := X178.virtualBack hx (y := (⟨"com/example/neat_contract/neatcontract/document/Position", "equals", "(Ljava/lang/Object;)Z"⟩ : MethodName)) (z := (⟨"com/example/neat_contract/neatcontract/document/Position", "equals", "(Ljava/lang/Object;)Z"⟩ : MethodName)) hown (mvT hZ (hw _ (List.mem_of_getElem? (i := 18) rfl))) (mvT hZ (hw _ (List.mem_of_getElem? (i := 19) rfl))) (notFace_of_selects (args := #[]) (mvT hZ (hw _ (List.mem_of_getElem? (i := 21) rfl)))) (mvT hZ (hw _ (List.mem_of_getElem? (i := 21) rfl))) (mvT hZ (hw _ (List.mem_of_getElem? (i := 20) rfl))) (by decide) (backOf (W := 0) (rm4 l Z a0 hw [] b150 b144 (f1 (1 : Int32) (p1 &&& (2147483647 : Int32))) (f1 (1 : Int32) (p1 &&& (2147483647 : Int32))) (f1 (1 : Int32) (p4 &&& (2147483647 : Int32))) (f1 (1 : Int32) (p2 &&& (2147483647 : Int32))) T151.heap n0 Zs183 Ex181 qp151_1 F179 qp151_2 F180) hZ (hw _ (List.mem_of_getElem? (i := 22) rfl)) (hw _ (List.mem_of_getElem? (i := 7) rfl)) (by decide) (by decide)) q184a q184c (g := (mkF m 127 #[.val (.int p1), .val (.int p2), .val (.int p3), .val (.int p4), .val (.int p5), .val (.int (f1 (1 : Int32) (p1 &&& (2147483647 : Int32)))), .val (.int (f1 (1 : Int32) (p2 &&& (2147483647 : Int32)))), .val (.int (f1 (1 : Int32) (p1 &&& (2147483647 : Int32)))), .val (.int (f1 (1 : Int32) (p4 &&& (2147483647 : Int32)))), .val (.ref b144), .val (.ref b150), .val (.int (0 : Int32))] [(.ref b144), (.ref b150)])) rfl (by rw [hml]; rfl) (Steps.refl _) (argsL := [(.ref b144)]) (rest := []) (lenOf pd_0_3 rfl) rfl (by show 2 * 0 + _ ≤ _; exact Nat.le_of_eq rfl) (hb hby at_127) (fun _ _ => ⟨rfl, e178, (by decide : 2 + 0 ≤ _), (by decide : 4 + 0 ≤ _)⟩)
        dsimp only [Pt.U, Pt.locs, Pt.cells, Pt.slots] at X184 l184 y184 z184 st184 hQ184
        subst l184 y184 z184
        obtain ⟨rfl, N184q, e184⟩ := hQ184
        have N184 := Fr.app N178 N184q
        obtain ⟨cq185, kq185, q185a, q185b, q185c⟩ := isOf hZ e184 Ex181
        obtain ⟨_, _, ⟨T185, L185, k185, n185⟩, -, X185, ⟨Lc185, hQ185, l185, y185, z185⟩, st185⟩ := X184.virtualBack hx (y := (⟨"com/example/neat_contract/neatcontract/document/Position", "equals", "(Ljava/lang/Object;)Z"⟩ : MethodName)) (z := (⟨"com/example/neat_contract/neatcontract/document/Position", "equals", "(Ljava/lang/Object;)Z"⟩ : MethodName)) hown (mvT hZ (hw _ (List.mem_of_getElem? (i := 18) rfl))) (mvT hZ (hw _ (List.mem_of_getElem? (i := 19) rfl))) (notFace_of_selects (args := #[]) (mvT hZ (hw _ (List.mem_of_getElem? (i := 21) rfl)))) (mvT hZ (hw _ (List.mem_of_getElem? (i := 21) rfl))) (mvT hZ (hw _ (List.mem_of_getElem? (i := 20) rfl))) (by decide) (backOf (W := 0) (rm4 l Z a0 hw [] b144 b144 (f1 (1 : Int32) (p1 &&& (2147483647 : Int32))) (f1 (1 : Int32) (p1 &&& (2147483647 : Int32))) (f1 (1 : Int32) (p2 &&& (2147483647 : Int32))) (f1 (1 : Int32) (p2 &&& (2147483647 : Int32))) T151.heap n0 Zs183 Ex181 F179 F179 F180 F180) hZ (hw _ (List.mem_of_getElem? (i := 22) rfl)) (hw _ (List.mem_of_getElem? (i := 7) rfl)) (by decide) (by decide)) q185a q185c (g := (mkF m 139 #[.val (.int p1), .val (.int p2), .val (.int p3), .val (.int p4), .val (.int p5), .val (.int (f1 (1 : Int32) (p1 &&& (2147483647 : Int32)))), .val (.int (f1 (1 : Int32) (p2 &&& (2147483647 : Int32)))), .val (.int (f1 (1 : Int32) (p1 &&& (2147483647 : Int32)))), .val (.int (f1 (1 : Int32) (p4 &&& (2147483647 : Int32)))), .val (.ref b144), .val (.ref b150), .val (.int (0 : Int32))] [(.ref b144), (.ref b144)])) rfl (by rw [hml]; rfl) (Steps.refl _) (argsL := [(.ref b144)]) (rest := []) (lenOf pd_0_3 rfl) rfl (by show 2 * 0 + _ ≤ _; exact Nat.le_of_eq rfl) (hb hby at_139) (fun _ _ => ⟨rfl, e184, (by decide : 2 + 0 ≤ _), (by decide : 4 + 0 ≤ _)⟩)
        dsimp only [Pt.U, Pt.locs, Pt.cells, Pt.slots] at X185 l185 y185 z185 st185 hQ185
        subst l185 y185 z185
        obtain ⟨rfl, N185q, e185⟩ := hQ185
        have N185 := Fr.app N184 N185q
        obtain ⟨cq186, kq186, q186a, q186b, q186c⟩ := isOf hZ e185 Ex181
        obtain ⟨_, _, ⟨T186, L186, k186, n186⟩, -, X186, ⟨Lc186, hQ186, l186, y186, z186⟩, st186⟩ := X185.virtualBack hx (y := (⟨"com/example/neat_contract/neatcontract/document/Position", "equals", "(Ljava/lang/Object;)Z"⟩ : MethodName)) (z := (⟨"com/example/neat_contract/neatcontract/document/Position", "equals", "(Ljava/lang/Object;)Z"⟩ : MethodName)) hown (mvT hZ (hw _ (List.mem_of_getElem? (i := 18) rfl))) (mvT hZ (hw _ (List.mem_of_getElem? (i := 19) rfl))) (notFace_of_selects (args := #[]) (mvT hZ (hw _ (List.mem_of_getElem? (i := 21) rfl)))) (mvT hZ (hw _ (List.mem_of_getElem? (i := 21) rfl))) (mvT hZ (hw _ (List.mem_of_getElem? (i := 20) rfl))) (by decide) (backOf (W := 0) (rm104 l Z a0 hw [] b144 T151.heap n0 Zs183 ) hZ (hw _ (List.mem_of_getElem? (i := 22) rfl)) (hw _ (List.mem_of_getElem? (i := 7) rfl)) (by decide) (by decide)) q186a q186c (g := (mkF m 148 #[.val (.int p1), .val (.int p2), .val (.int p3), .val (.int p4), .val (.int p5), .val (.int (f1 (1 : Int32) (p1 &&& (2147483647 : Int32)))), .val (.int (f1 (1 : Int32) (p2 &&& (2147483647 : Int32)))), .val (.int (f1 (1 : Int32) (p1 &&& (2147483647 : Int32)))), .val (.int (f1 (1 : Int32) (p4 &&& (2147483647 : Int32)))), .val (.ref b144), .val (.ref b150), .val (.int (0 : Int32))] [.null, (.ref b144)])) rfl (by rw [hml]; rfl) (Steps.refl _) (argsL := [.null]) (rest := []) (lenOf pd_0_3 rfl) rfl (by show 2 * 0 + _ ≤ _; exact Nat.le_of_eq rfl) (hb hby at_148) (fun _ _ => ⟨rfl, e185, (by decide : 2 + 0 ≤ _), (by decide : 4 + 0 ≤ _)⟩)
        dsimp only [Pt.U, Pt.locs, Pt.cells, Pt.slots] at X186 l186 y186 z186 st186 hQ186
        subst l186 y186 z186
        obtain ⟨rfl, N186q, e186⟩ := hQ186
        have N186 := Fr.app N185 N186q
        obtain ⟨_, _, ⟨T187, L187, k187, n187⟩, -, X187, ⟨Lc187, hQ187, l187, y187, z187⟩, st187⟩ := Jvm.LawKit.callS X186 hx (y := (⟨"java/lang/Integer", "valueOf", "(I)Ljava/lang/Integer;"⟩ : MethodName)) hown (mvT hZ (hw _ (List.mem_of_getElem? (i := 25) rfl))) (mvT hZ (hw _ (List.mem_of_getElem? (i := 26) rfl))) (mvT hZ (hw _ (List.mem_of_getElem? (i := 27) rfl))) (mvT hZ (hw _ (List.mem_of_getElem? (i := 28) rfl))) (by decide) (backOf (W := 1) (rm5 l Z a0 hw [] p1 w_cache cl_w T151.heap n0 Zs183 AR hsz hel Od182 (Sz_high.ext Od182.2) (Sz_cache.ext Od182.2)) hZ (hw _ (List.mem_of_getElem? (i := 28) rfl)) (hw _ (List.mem_of_getElem? (i := 27) rfl)) (by decide) (by decide)) (g := (mkF m 157 #[.val (.int p1), .val (.int p2), .val (.int p3), .val (.int p4), .val (.int p5), .val (.int (f1 (1 : Int32) (p1 &&& (2147483647 : Int32)))), .val (.int (f1 (1 : Int32) (p2 &&& (2147483647 : Int32)))), .val (.int (f1 (1 : Int32) (p1 &&& (2147483647 : Int32)))), .val (.int (f1 (1 : Int32) (p4 &&& (2147483647 : Int32)))), .val (.ref b144), .val (.ref b150), .val (.int (0 : Int32))] [(.int p1), (.ref b144)])) rfl (by rw [hml]; rfl) (argsL := [(.int p1)]) (rest := [(.ref b144)]) (lenOf pd_0_4 rfl) rfl (by show 2 * 0 + _ ≤ _; exact Nat.le_of_eq rfl) (hb hby at_157) (fun _ _ => ⟨rfl, e186, (by decide : 2 + 1 ≤ _), (by decide : 4 + 1 ≤ _)⟩)
        dsimp only [Pt.U, Pt.locs, Pt.cells, Pt.slots] at X187 l187 y187 z187 st187 hQ187
        subst l187 y187 z187
        obtain ⟨r187, rfl, N187q, Kp187, qp187_0⟩ := hQ187
        have N187 := Fr.app N186 N187q
        have F189 := (F179.keep Kp187 nin0)
        have F190 := (F180.keep Kp187 nin0)
        have F191 := (qp151_1.keep Kp187 nin0)
        have F192 := (qp151_2.keep Kp187 nin0)
        have Ex193 := (Ex181.keep Kp187)
        have Ex194 := (qp151_0.keep Kp187)
        have Od195 := (Od182.keep Kp187 all0)
        have Zs196 : n0 ≤ T187.heap.size := (Nat.le_trans Zs183 Kp187.1)
        obtain ⟨cq188, kq188, q188a, q188b, q188c⟩ := isOf hZ rfl Ex193
        obtain ⟨_, _, ⟨T188, L188, k188, n188⟩, -, X188, ⟨Lc188, hQ188, l188, y188, z188⟩, st188⟩ := X187.virtualBack hx (y := (⟨"com/example/neat_contract/neatcontract/document/Position", "equals", "(Ljava/lang/Object;)Z"⟩ : MethodName)) (z := (⟨"com/example/neat_contract/neatcontract/document/Position", "equals", "(Ljava/lang/Object;)Z"⟩ : MethodName)) hown (mvT hZ (hw _ (List.mem_of_getElem? (i := 18) rfl))) (mvT hZ (hw _ (List.mem_of_getElem? (i := 19) rfl))) (notFace_of_selects (args := #[]) (mvT hZ (hw _ (List.mem_of_getElem? (i := 21) rfl)))) (mvT hZ (hw _ (List.mem_of_getElem? (i := 21) rfl))) (mvT hZ (hw _ (List.mem_of_getElem? (i := 20) rfl))) (by decide) (backOf (W := 0) (rm204 l Z a0 hw [] b144 r187 T187.heap n0 Zs196 (own_ni (hw _ (List.mem_of_getElem? (i := 32) rfl)) (hw _ (List.mem_of_getElem? (i := 33) rfl)) (hw _ (List.mem_of_getElem? (i := 34) rfl)) (hw _ (List.mem_of_getElem? (i := 6) rfl)) (by decide) (by decide) (by decide)) qp187_0) hZ (hw _ (List.mem_of_getElem? (i := 22) rfl)) (hw _ (List.mem_of_getElem? (i := 7) rfl)) (by decide) (by decide)) q188a q188c (g := (mkF m 160 #[.val (.int p1), .val (.int p2), .val (.int p3), .val (.int p4), .val (.int p5), .val (.int (f1 (1 : Int32) (p1 &&& (2147483647 : Int32)))), .val (.int (f1 (1 : Int32) (p2 &&& (2147483647 : Int32)))), .val (.int (f1 (1 : Int32) (p1 &&& (2147483647 : Int32)))), .val (.int (f1 (1 : Int32) (p4 &&& (2147483647 : Int32)))), .val (.ref b144), .val (.ref b150), .val (.int (0 : Int32))] [(.ref r187), (.ref b144)])) rfl (by rw [hml]; rfl) (Steps.refl _) (argsL := [(.ref r187)]) (rest := []) (lenOf pd_0_3 rfl) rfl (by show 2 * 0 + _ ≤ _; exact Nat.le_of_eq rfl) (hb hby at_160) (fun _ _ => ⟨rfl, rfl, (by decide : 3 + 0 ≤ _), (by decide : 5 + 0 ≤ _)⟩)
        dsimp only [Pt.U, Pt.locs, Pt.cells, Pt.slots] at X188 l188 y188 z188 st188 hQ188
        subst l188 y188 z188
        obtain ⟨rfl, N188q, e188⟩ := hQ188
        have N188 := Fr.app N187 N188q
        obtain ⟨fs, hr, hrun, hended, hW, hsame⟩ := X188.leave (v := some (.int (1 : Int32))) (fun h => by rw [Bd.returns] at h; cases h) (by first | exact BodyLoose.notSynchronized Bd | exact Body.notSynchronized Bd)
        refine ⟨_, _, pre157 _ ?_, hrun, hended, _, _, rfl, ?_, ⟨_, rfl⟩, hW, hsame.mono (by decide) (by decide)⟩
        · show Steps p.tables e below (T151.setTop (mkF m 101 #[.val (.int p1), .val (.int p2), .val (.int p3), .val (.int p4), .val (.int p5), .val (.int (f1 (1 : Int32) (p1 &&& (2147483647 : Int32)))), .val (.int (f1 (1 : Int32) (p2 &&& (2147483647 : Int32)))), .val (.int (f1 (1 : Int32) (p1 &&& (2147483647 : Int32)))), .val (.int (f1 (1 : Int32) (p4 &&& (2147483647 : Int32)))), .val (.ref b144), .val (.ref b150), .unset] [(.int (f1 (1 : Int32) (p4 &&& (2147483647 : Int32)))), (.int (f1 (1 : Int32) (p2 &&& (2147483647 : Int32))))])) _
          refine XS.icmpYes X151.here hx rfl (pc0 := 101) (pc' := 108) rfl (hb hby at_101) rfl (feq hc158).2 (by decide) (by decide) ?_
          show Steps p.tables e below (T151.setTop (mkF m 108 _ [])) _
          refine XS.iconst X151.here hx rfl (hb hby at_108) ?_
          show Steps p.tables e below (T151.setTop (mkF m 109 _ [(.int (0 : Int32))])) _
          refine XS.istore X151.here hx rfl (hb hby at_109) rfl (l' := #[.val (.int p1), .val (.int p2), .val (.int p3), .val (.int p4), .val (.int p5), .val (.int (f1 (1 : Int32) (p1 &&& (2147483647 : Int32)))), .val (.int (f1 (1 : Int32) (p2 &&& (2147483647 : Int32)))), .val (.int (f1 (1 : Int32) (p1 &&& (2147483647 : Int32)))), .val (.int (f1 (1 : Int32) (p4 &&& (2147483647 : Int32)))), .val (.ref b144), .val (.ref b150), .val (.int (0 : Int32))]) rfl ?_
          show Steps p.tables e below (T151.setTop (mkF m 111 _ [])) _
          refine XS.aload X151.here hx rfl (hb hby at_111) rfl rfl ?_
          show Steps p.tables e below (T151.setTop (mkF m 113 _ [(.ref b144)])) _
          refine XS.aload X151.here hx rfl (hb hby at_113) rfl rfl ?_
          show Steps p.tables e below (T151.setTop (mkF m 115 _ [(.ref b150), (.ref b144)])) _
          refine st178.trans ?_
          show Steps p.tables e below (T178.setTop (mkF m 118 _ [(.int (f4 (f1 (1 : Int32) (p1 &&& (2147483647 : Int32))) (f1 (1 : Int32) (p1 &&& (2147483647 : Int32))) (f1 (1 : Int32) (p2 &&& (2147483647 : Int32))) (f1 (1 : Int32) (p4 &&& (2147483647 : Int32)))))])) _
          refine XS.iload X178.here hx rfl (hb hby at_118) rfl ?_
          show Steps p.tables e below (T178.setTop (mkF m 120 _ [(.int (0 : Int32)), (.int (f4 (f1 (1 : Int32) (p1 &&& (2147483647 : Int32))) (f1 (1 : Int32) (p1 &&& (2147483647 : Int32))) (f1 (1 : Int32) (p2 &&& (2147483647 : Int32))) (f1 (1 : Int32) (p4 &&& (2147483647 : Int32)))))])) _
          refine XS.icmpNo X178.here hx rfl (hb hby at_120) rfl (teq (by simp [f4, *])).2 ?_
          show Steps p.tables e below (T178.setTop (mkF m 123 _ [])) _
          refine XS.aload X178.here hx rfl (hb hby at_123) rfl rfl ?_
          show Steps p.tables e below (T178.setTop (mkF m 125 _ [(.ref b150)])) _
          refine XS.aload X178.here hx rfl (hb hby at_125) rfl rfl ?_
          show Steps p.tables e below (T178.setTop (mkF m 127 _ [(.ref b144), (.ref b150)])) _
          refine st184.trans ?_
          show Steps p.tables e below (T184.setTop (mkF m 130 _ [(.int (f4 (f1 (1 : Int32) (p1 &&& (2147483647 : Int32))) (f1 (1 : Int32) (p1 &&& (2147483647 : Int32))) (f1 (1 : Int32) (p4 &&& (2147483647 : Int32))) (f1 (1 : Int32) (p2 &&& (2147483647 : Int32)))))])) _
          refine XS.iload X184.here hx rfl (hb hby at_130) rfl ?_
          show Steps p.tables e below (T184.setTop (mkF m 132 _ [(.int (0 : Int32)), (.int (f4 (f1 (1 : Int32) (p1 &&& (2147483647 : Int32))) (f1 (1 : Int32) (p1 &&& (2147483647 : Int32))) (f1 (1 : Int32) (p4 &&& (2147483647 : Int32))) (f1 (1 : Int32) (p2 &&& (2147483647 : Int32)))))])) _
          refine XS.icmpNo X184.here hx rfl (hb hby at_132) rfl (teq (by rw [own_sym]; simp [f4, *])).2 ?_
          show Steps p.tables e below (T184.setTop (mkF m 135 _ [])) _
          refine XS.aload X184.here hx rfl (hb hby at_135) rfl rfl ?_
          show Steps p.tables e below (T184.setTop (mkF m 137 _ [(.ref b144)])) _
          refine XS.aload X184.here hx rfl (hb hby at_137) rfl rfl ?_
          show Steps p.tables e below (T184.setTop (mkF m 139 _ [(.ref b144), (.ref b144)])) _
          refine st185.trans ?_
          show Steps p.tables e below (T185.setTop (mkF m 142 _ [(.int (f4 (f1 (1 : Int32) (p1 &&& (2147483647 : Int32))) (f1 (1 : Int32) (p1 &&& (2147483647 : Int32))) (f1 (1 : Int32) (p2 &&& (2147483647 : Int32))) (f1 (1 : Int32) (p2 &&& (2147483647 : Int32)))))])) _
          refine XS.ifNo X185.here hx rfl (hb hby at_142) rfl ((if0 _ _).trans (feq (by simp [f4])).1) ?_
          show Steps p.tables e below (T185.setTop (mkF m 145 _ [])) _
          refine XS.aload X185.here hx rfl (hb hby at_145) rfl rfl ?_
          show Steps p.tables e below (T185.setTop (mkF m 147 _ [(.ref b144)])) _
          refine XS.aconstNull X185.here hx rfl (hb hby at_147) ?_
          show Steps p.tables e below (T185.setTop (mkF m 148 _ [.null, (.ref b144)])) _
          refine st186.trans ?_
          show Steps p.tables e below (T186.setTop (mkF m 151 _ [(.int (0 : Int32))])) _
          refine XS.ifNo X186.here hx rfl (hb hby at_151) rfl ((if0 _ _).trans (teq (by decide)).2) ?_
          show Steps p.tables e below (T186.setTop (mkF m 154 _ [])) _
          refine XS.aload X186.here hx rfl (hb hby at_154) rfl rfl ?_
          show Steps p.tables e below (T186.setTop (mkF m 156 _ [(.ref b144)])) _
          refine XS.iloadN X186.here hx rfl (hb hby at_156) rfl ?_
          show Steps p.tables e below (T186.setTop (mkF m 157 _ [(.int p1), (.ref b144)])) _
          refine st187 _ ?_
          show Steps p.tables e below (T187.setTop (mkF m 160 _ [(.ref r187), (.ref b144)])) _
          refine st188.trans ?_
          show Steps p.tables e below (T188.setTop (mkF m 163 _ [(.int (0 : Int32))])) _
          refine XS.ifNo X188.here hx rfl (hb hby at_163) rfl ((if0 _ _).trans (teq (by decide)).2) ?_
          show Steps p.tables e below (T188.setTop (mkF m 166 _ [])) _
          refine XS.iconst X188.here hx rfl (hb hby at_166) ?_
          show Steps p.tables e below (T188.setTop (mkF m 167 _ [(.int (1 : Int32))])) _
          refine XS.goto X188.here hx rfl (pc0 := 167) (pc' := 171) rfl (hb hby at_167) (by decide) (by decide) ?_
          show Steps p.tables e below (T188.setTop (mkF m 171 #[.val (.int p1), .val (.int p2), .val (.int p3), .val (.int p4), .val (.int p5), .val (.int (f1 (1 : Int32) (p1 &&& (2147483647 : Int32)))), .val (.int (f1 (1 : Int32) (p2 &&& (2147483647 : Int32)))), .val (.int (f1 (1 : Int32) (p1 &&& (2147483647 : Int32)))), .val (.int (f1 (1 : Int32) (p4 &&& (2147483647 : Int32)))), .val (.ref b144), .val (.ref b150), .val (.int (0 : Int32))] [(.int (1 : Int32))])) _
          exact retN X188 hx (t := .boolean) Bd.returns (by simp) (hb hby at_171) hr
        · show Q0 Z p1 p2 p3 p4 p5 w_cache cl_w h0 n0 _ T188.heap _
          rw [e188]
          exact ⟨congrArg (fun z => some (Value.int z)) (by rw [f0, if_neg hc9, if_pos hc142, if_neg hc158] : f0 p1 p2 p3 p4 p5 w_cache cl_w = (1 : Int32)).symm, N188⟩
    · skip
      obtain ⟨T197, h197, X197, e197, E197, A197, D197, -, st197⟩ := newO X7 hx hZ hown (hw _ (List.mem_of_getElem? (i := 5) rfl)) (hw _ (List.mem_of_getElem? (i := 6) rfl)) (hw _ (List.mem_of_getElem? (i := 7) rfl)) e7 (g := (mkF m 64 #[.val (.int p1), .val (.int p2), .val (.int p3), .val (.int p4), .val (.int p5), .val (.int (f1 (1 : Int32) (p1 &&& (2147483647 : Int32)))), .val (.int (f1 (1 : Int32) (p2 &&& (2147483647 : Int32)))), .val (.int (f1 (1 : Int32) (p1 &&& (2147483647 : Int32)))), .val (.int (f1 (1 : Int32) (p2 &&& (2147483647 : Int32)))), .unset, .unset, .unset] [])) rfl (hb hby at_64) (by decide) (by decide)
      obtain ⟨b197, g197⟩ : ∃ z, z = h0.size := ⟨_, rfl⟩
      rw [← g197] at A197 D197 st197
      have g_b197 : n0 ≤ b197 := Nat.le_trans Z0 (Nat.le_of_eq g197.symm)
      have F_line_b197 : Fld Z h197 b197 "com/example/neat_contract/neatcontract/document/Position" "line" "I" (.int (0 : Int32)) := D197 (Or.inr (hw _ (List.mem_of_getElem? (i := 15) rfl))) (ty := .int) (by decide)
      have F_column_b197 : Fld Z h197 b197 "com/example/neat_contract/neatcontract/document/Position" "column" "I" (.int (0 : Int32)) := D197 (Or.inr (hw _ (List.mem_of_getElem? (i := 17) rfl))) (ty := .int) (by decide)
      have Od199 := (O0.ext E197)
      have Zs200 : n0 ≤ h197.size := (Nat.le_trans Z0 E197.1)
      obtain ⟨_, _, ⟨T198, L198, k198, n198⟩, -, X198, ⟨Lc198, hQ198, l198, y198, z198⟩, st198⟩ := X197.specialBack hx (y := (⟨"com/example/neat_contract/neatcontract/document/Position", "<init>", "(II)V"⟩ : MethodName)) rfl hown (mvT hZ (hw _ (List.mem_of_getElem? (i := 8) rfl))) (mvT hZ (hw _ (List.mem_of_getElem? (i := 9) rfl))) (mvT hZ (hw _ (List.mem_of_getElem? (i := 10) rfl))) (by decide) (backOf (W := 1) (rm2 l Z a0 hw [] b197 (f1 (1 : Int32) (p1 &&& (2147483647 : Int32))) (f1 (1 : Int32) (p2 &&& (2147483647 : Int32))) (.int (0 : Int32)) (.int (0 : Int32)) h197 n0 Zs200 (own_max _) (own_max _) A197 F_line_b197 F_column_b197 g_b197) hZ (hw _ (List.mem_of_getElem? (i := 10) rfl)) (hw _ (List.mem_of_getElem? (i := 7) rfl)) (by decide) (by decide)) (g := (mkF m 72 #[.val (.int p1), .val (.int p2), .val (.int p3), .val (.int p4), .val (.int p5), .val (.int (f1 (1 : Int32) (p1 &&& (2147483647 : Int32)))), .val (.int (f1 (1 : Int32) (p2 &&& (2147483647 : Int32)))), .val (.int (f1 (1 : Int32) (p1 &&& (2147483647 : Int32)))), .val (.int (f1 (1 : Int32) (p2 &&& (2147483647 : Int32)))), .unset, .unset, .unset] [(.int (f1 (1 : Int32) (p2 &&& (2147483647 : Int32)))), (.int (f1 (1 : Int32) (p1 &&& (2147483647 : Int32)))), (.ref b197), (.ref b197)])) rfl (by rw [hml]; rfl) (Steps.refl _) (a := b197) (argsL := [(.int (f1 (1 : Int32) (p1 &&& (2147483647 : Int32)))), (.int (f1 (1 : Int32) (p2 &&& (2147483647 : Int32))))]) (rest := [(.ref b197)]) (lenOf pd_0_1 rfl) rfl (by show 2 * 0 + _ ≤ _; exact Nat.le_of_eq rfl) (hb hby at_72) (fun _ _ => ⟨rfl, e197, (by decide : 1 + 0 ≤ _), (by decide : 2 + 0 ≤ _)⟩)
      dsimp only [Pt.U, Pt.locs, Pt.cells, Pt.slots] at X198 l198 y198 z198 st198 hQ198
      subst l198 y198 z198
      obtain ⟨rfl, N198q, Kp198, qp198_0, qp198_1, qp198_2⟩ := hQ198
      have N198 := Fr.app N7 N198q
      have Od201 := (Od199.keep Kp198 (allS g_b197 all0))
      have Zs202 : n0 ≤ T198.heap.size := (Nat.le_trans Zs200 Kp198.1)
      obtain ⟨T203, h203, X203, e203, E203, A203, D203, -, st203⟩ := newO X198 hx hZ hown (hw _ (List.mem_of_getElem? (i := 5) rfl)) (hw _ (List.mem_of_getElem? (i := 6) rfl)) (hw _ (List.mem_of_getElem? (i := 7) rfl)) rfl (g := (mkF m 77 #[.val (.int p1), .val (.int p2), .val (.int p3), .val (.int p4), .val (.int p5), .val (.int (f1 (1 : Int32) (p1 &&& (2147483647 : Int32)))), .val (.int (f1 (1 : Int32) (p2 &&& (2147483647 : Int32)))), .val (.int (f1 (1 : Int32) (p1 &&& (2147483647 : Int32)))), .val (.int (f1 (1 : Int32) (p2 &&& (2147483647 : Int32)))), .val (.ref b197), .unset, .unset] [])) rfl (hb hby at_77) (by decide) (by decide)
      obtain ⟨b203, g203⟩ : ∃ z, z = T198.heap.size := ⟨_, rfl⟩
      rw [← g203] at A203 D203 st203
      have g_b203 : n0 ≤ b203 := Nat.le_trans Zs202 (Nat.le_of_eq g203.symm)
      have ne_b197_b203 : b197 ≠ b203 := Nat.ne_of_lt (Nat.lt_of_lt_of_le qp198_0.lt (Nat.le_of_eq g203.symm))
      have F_line_b203 : Fld Z h203 b203 "com/example/neat_contract/neatcontract/document/Position" "line" "I" (.int (0 : Int32)) := D203 (Or.inr (hw _ (List.mem_of_getElem? (i := 15) rfl))) (ty := .int) (by decide)
      have F_column_b203 : Fld Z h203 b203 "com/example/neat_contract/neatcontract/document/Position" "column" "I" (.int (0 : Int32)) := D203 (Or.inr (hw _ (List.mem_of_getElem? (i := 17) rfl))) (ty := .int) (by decide)
      have F205 := (qp198_1.ext E203)
      have F206 := (qp198_2.ext E203)
      have Ex207 := (qp198_0.ext E203)
      have Od208 := (Od201.ext E203)
      have Zs209 : n0 ≤ h203.size := (Nat.le_trans Zs202 E203.1)
      obtain ⟨_, _, ⟨T204, L204, k204, n204⟩, -, X204, ⟨Lc204, hQ204, l204, y204, z204⟩, st204⟩ := X203.specialBack hx (y := (⟨"com/example/neat_contract/neatcontract/document/Position", "<init>", "(II)V"⟩ : MethodName)) rfl hown (mvT hZ (hw _ (List.mem_of_getElem? (i := 8) rfl))) (mvT hZ (hw _ (List.mem_of_getElem? (i := 9) rfl))) (mvT hZ (hw _ (List.mem_of_getElem? (i := 10) rfl))) (by decide) (backOf (W := 1) (rm2 l Z a0 hw [] b203 (f1 (1 : Int32) (p1 &&& (2147483647 : Int32))) (f1 (1 : Int32) (p2 &&& (2147483647 : Int32))) (.int (0 : Int32)) (.int (0 : Int32)) h203 n0 Zs209 (own_max _) (own_max _) A203 F_line_b203 F_column_b203 g_b203) hZ (hw _ (List.mem_of_getElem? (i := 10) rfl)) (hw _ (List.mem_of_getElem? (i := 7) rfl)) (by decide) (by decide)) (g := (mkF m 85 #[.val (.int p1), .val (.int p2), .val (.int p3), .val (.int p4), .val (.int p5), .val (.int (f1 (1 : Int32) (p1 &&& (2147483647 : Int32)))), .val (.int (f1 (1 : Int32) (p2 &&& (2147483647 : Int32)))), .val (.int (f1 (1 : Int32) (p1 &&& (2147483647 : Int32)))), .val (.int (f1 (1 : Int32) (p2 &&& (2147483647 : Int32)))), .val (.ref b197), .unset, .unset] [(.int (f1 (1 : Int32) (p2 &&& (2147483647 : Int32)))), (.int (f1 (1 : Int32) (p1 &&& (2147483647 : Int32)))), (.ref b203), (.ref b203)])) rfl (by rw [hml]; rfl) (Steps.refl _) (a := b203) (argsL := [(.int (f1 (1 : Int32) (p1 &&& (2147483647 : Int32)))), (.int (f1 (1 : Int32) (p2 &&& (2147483647 : Int32))))]) (rest := [(.ref b203)]) (lenOf pd_0_1 rfl) rfl (by show 2 * 0 + _ ≤ _; exact Nat.le_of_eq rfl) (hb hby at_85) (fun _ _ => ⟨rfl, e203, (by decide : 2 + 0 ≤ _), (by decide : 4 + 0 ≤ _)⟩)
      dsimp only [Pt.U, Pt.locs, Pt.cells, Pt.slots] at X204 l204 y204 z204 st204 hQ204
      subst l204 y204 z204
      obtain ⟨rfl, N204q, Kp204, qp204_0, qp204_1, qp204_2⟩ := hQ204
      have N204 := Fr.app N198 N204q
      have F211 := (F205.keep Kp204 (ninS ne_b197_b203 nin0))
      have F212 := (F206.keep Kp204 (ninS ne_b197_b203 nin0))
      have Ex213 := (Ex207.keep Kp204)
      have Od214 := (Od208.keep Kp204 (allS g_b203 all0))
      have Zs215 : n0 ≤ T204.heap.size := (Nat.le_trans Zs209 Kp204.1)
      obtain ⟨cq210, kq210, q210a, q210b, q210c⟩ := isOf hZ rfl Ex213
      obtain ⟨_, _, ⟨T210, L210, k210, n210⟩, -, X210, ⟨Lc210, hQ210, l210, y210, z210⟩, st210⟩ := X204.virtualBack hx (y := (⟨"com/example/neat_contract/neatcontract/document/Position", "equals", "(Ljava/lang/Object;)Z"⟩ : MethodName)) (z := (⟨"com/example/neat_contract/neatcontract/document/Position", "equals", "(Ljava/lang/Object;)Z"⟩ : MethodName)) hown (mvT hZ (hw _ (List.mem_of_getElem? (i := 18) rfl))) (mvT hZ (hw _ (List.mem_of_getElem? (i := 19) rfl))) (notFace_of_selects (args := #[]) (mvT hZ (hw _ (List.mem_of_getElem? (i := 21) rfl)))) (mvT hZ (hw _ (List.mem_of_getElem? (i := 21) rfl))) (mvT hZ (hw _ (List.mem_of_getElem? (i := 20) rfl))) (by decide) (backOf (W := 0) (rm4 l Z a0 hw [] b197 b203 (f1 (1 : Int32) (p1 &&& (2147483647 : Int32))) (f1 (1 : Int32) (p1 &&& (2147483647 : Int32))) (f1 (1 : Int32) (p2 &&& (2147483647 : Int32))) (f1 (1 : Int32) (p2 &&& (2147483647 : Int32))) T204.heap n0 Zs215 qp204_0 F211 qp204_1 F212 qp204_2) hZ (hw _ (List.mem_of_getElem? (i := 22) rfl)) (hw _ (List.mem_of_getElem? (i := 7) rfl)) (by decide) (by decide)) q210a q210c (g := (mkF m 115 #[.val (.int p1), .val (.int p2), .val (.int p3), .val (.int p4), .val (.int p5), .val (.int (f1 (1 : Int32) (p1 &&& (2147483647 : Int32)))), .val (.int (f1 (1 : Int32) (p2 &&& (2147483647 : Int32)))), .val (.int (f1 (1 : Int32) (p1 &&& (2147483647 : Int32)))), .val (.int (f1 (1 : Int32) (p2 &&& (2147483647 : Int32)))), .val (.ref b197), .val (.ref b203), .val (.int (1 : Int32))] [(.ref b203), (.ref b197)])) rfl (by rw [hml]; rfl) (Steps.refl _) (argsL := [(.ref b203)]) (rest := []) (lenOf pd_0_3 rfl) rfl (by show 2 * 0 + _ ≤ _; exact Nat.le_of_eq rfl) (hb hby at_115) (fun _ _ => ⟨rfl, rfl, (by decide : 2 + 0 ≤ _), (by decide : 4 + 0 ≤ _)⟩)
      dsimp only [Pt.U, Pt.locs, Pt.cells, Pt.slots] at X210 l210 y210 z210 st210 hQ210
      subst l210 y210 z210
      obtain ⟨rfl, N210q, e210⟩ := hQ210
      have N210 := Fr.app N204 N210q
      obtain ⟨cq216, kq216, q216a, q216b, q216c⟩ := isOf hZ e210 qp204_0
      obtain ⟨_, _, ⟨T216, L216, k216, n216⟩, -, X216, ⟨Lc216, hQ216, l216, y216, z216⟩, st216⟩ := X210.virtualBack hx (y := (⟨"com/example/neat_contract/neatcontract/document/Position", "equals", "(Ljava/lang/Object;)Z"⟩ : MethodName)) (z := (⟨"com/example/neat_contract/neatcontract/document/Position", "equals", "(Ljava/lang/Object;)Z"⟩ : MethodName)) hown (mvT hZ (hw _ (List.mem_of_getElem? (i := 18) rfl))) (mvT hZ (hw _ (List.mem_of_getElem? (i := 19) rfl))) (notFace_of_selects (args := #[]) (mvT hZ (hw _ (List.mem_of_getElem? (i := 21) rfl)))) (mvT hZ (hw _ (List.mem_of_getElem? (i := 21) rfl))) (mvT hZ (hw _ (List.mem_of_getElem? (i := 20) rfl))) (by decide) (backOf (W := 0) (rm4 l Z a0 hw [] b203 b197 (f1 (1 : Int32) (p1 &&& (2147483647 : Int32))) (f1 (1 : Int32) (p1 &&& (2147483647 : Int32))) (f1 (1 : Int32) (p2 &&& (2147483647 : Int32))) (f1 (1 : Int32) (p2 &&& (2147483647 : Int32))) T204.heap n0 Zs215 Ex213 qp204_1 F211 qp204_2 F212) hZ (hw _ (List.mem_of_getElem? (i := 22) rfl)) (hw _ (List.mem_of_getElem? (i := 7) rfl)) (by decide) (by decide)) q216a q216c (g := (mkF m 127 #[.val (.int p1), .val (.int p2), .val (.int p3), .val (.int p4), .val (.int p5), .val (.int (f1 (1 : Int32) (p1 &&& (2147483647 : Int32)))), .val (.int (f1 (1 : Int32) (p2 &&& (2147483647 : Int32)))), .val (.int (f1 (1 : Int32) (p1 &&& (2147483647 : Int32)))), .val (.int (f1 (1 : Int32) (p2 &&& (2147483647 : Int32)))), .val (.ref b197), .val (.ref b203), .val (.int (1 : Int32))] [(.ref b197), (.ref b203)])) rfl (by rw [hml]; rfl) (Steps.refl _) (argsL := [(.ref b197)]) (rest := []) (lenOf pd_0_3 rfl) rfl (by show 2 * 0 + _ ≤ _; exact Nat.le_of_eq rfl) (hb hby at_127) (fun _ _ => ⟨rfl, e210, (by decide : 2 + 0 ≤ _), (by decide : 4 + 0 ≤ _)⟩)
      dsimp only [Pt.U, Pt.locs, Pt.cells, Pt.slots] at X216 l216 y216 z216 st216 hQ216
      subst l216 y216 z216
      obtain ⟨rfl, N216q, e216⟩ := hQ216
      have N216 := Fr.app N210 N216q
      obtain ⟨cq217, kq217, q217a, q217b, q217c⟩ := isOf hZ e216 Ex213
      obtain ⟨_, _, ⟨T217, L217, k217, n217⟩, -, X217, ⟨Lc217, hQ217, l217, y217, z217⟩, st217⟩ := X216.virtualBack hx (y := (⟨"com/example/neat_contract/neatcontract/document/Position", "equals", "(Ljava/lang/Object;)Z"⟩ : MethodName)) (z := (⟨"com/example/neat_contract/neatcontract/document/Position", "equals", "(Ljava/lang/Object;)Z"⟩ : MethodName)) hown (mvT hZ (hw _ (List.mem_of_getElem? (i := 18) rfl))) (mvT hZ (hw _ (List.mem_of_getElem? (i := 19) rfl))) (notFace_of_selects (args := #[]) (mvT hZ (hw _ (List.mem_of_getElem? (i := 21) rfl)))) (mvT hZ (hw _ (List.mem_of_getElem? (i := 21) rfl))) (mvT hZ (hw _ (List.mem_of_getElem? (i := 20) rfl))) (by decide) (backOf (W := 0) (rm4 l Z a0 hw [] b197 b197 (f1 (1 : Int32) (p1 &&& (2147483647 : Int32))) (f1 (1 : Int32) (p1 &&& (2147483647 : Int32))) (f1 (1 : Int32) (p2 &&& (2147483647 : Int32))) (f1 (1 : Int32) (p2 &&& (2147483647 : Int32))) T204.heap n0 Zs215 Ex213 F211 F211 F212 F212) hZ (hw _ (List.mem_of_getElem? (i := 22) rfl)) (hw _ (List.mem_of_getElem? (i := 7) rfl)) (by decide) (by decide)) q217a q217c (g := (mkF m 139 #[.val (.int p1), .val (.int p2), .val (.int p3), .val (.int p4), .val (.int p5), .val (.int (f1 (1 : Int32) (p1 &&& (2147483647 : Int32)))), .val (.int (f1 (1 : Int32) (p2 &&& (2147483647 : Int32)))), .val (.int (f1 (1 : Int32) (p1 &&& (2147483647 : Int32)))), .val (.int (f1 (1 : Int32) (p2 &&& (2147483647 : Int32)))), .val (.ref b197), .val (.ref b203), .val (.int (1 : Int32))] [(.ref b197), (.ref b197)])) rfl (by rw [hml]; rfl) (Steps.refl _) (argsL := [(.ref b197)]) (rest := []) (lenOf pd_0_3 rfl) rfl (by show 2 * 0 + _ ≤ _; exact Nat.le_of_eq rfl) (hb hby at_139) (fun _ _ => ⟨rfl, e216, (by decide : 2 + 0 ≤ _), (by decide : 4 + 0 ≤ _)⟩)
      dsimp only [Pt.U, Pt.locs, Pt.cells, Pt.slots] at X217 l217 y217 z217 st217 hQ217
      subst l217 y217 z217
      obtain ⟨rfl, N217q, e217⟩ := hQ217
      have N217 := Fr.app N216 N217q
      obtain ⟨cq218, kq218, q218a, q218b, q218c⟩ := isOf hZ e217 Ex213
      obtain ⟨_, _, ⟨T218, L218, k218, n218⟩, -, X218, ⟨Lc218, hQ218, l218, y218, z218⟩, st218⟩ := X217.virtualBack hx (y := (⟨"com/example/neat_contract/neatcontract/document/Position", "equals", "(Ljava/lang/Object;)Z"⟩ : MethodName)) (z := (⟨"com/example/neat_contract/neatcontract/document/Position", "equals", "(Ljava/lang/Object;)Z"⟩ : MethodName)) hown (mvT hZ (hw _ (List.mem_of_getElem? (i := 18) rfl))) (mvT hZ (hw _ (List.mem_of_getElem? (i := 19) rfl))) (notFace_of_selects (args := #[]) (mvT hZ (hw _ (List.mem_of_getElem? (i := 21) rfl)))) (mvT hZ (hw _ (List.mem_of_getElem? (i := 21) rfl))) (mvT hZ (hw _ (List.mem_of_getElem? (i := 20) rfl))) (by decide) (backOf (W := 0) (rm104 l Z a0 hw [] b197 T204.heap n0 Zs215 ) hZ (hw _ (List.mem_of_getElem? (i := 22) rfl)) (hw _ (List.mem_of_getElem? (i := 7) rfl)) (by decide) (by decide)) q218a q218c (g := (mkF m 148 #[.val (.int p1), .val (.int p2), .val (.int p3), .val (.int p4), .val (.int p5), .val (.int (f1 (1 : Int32) (p1 &&& (2147483647 : Int32)))), .val (.int (f1 (1 : Int32) (p2 &&& (2147483647 : Int32)))), .val (.int (f1 (1 : Int32) (p1 &&& (2147483647 : Int32)))), .val (.int (f1 (1 : Int32) (p2 &&& (2147483647 : Int32)))), .val (.ref b197), .val (.ref b203), .val (.int (1 : Int32))] [.null, (.ref b197)])) rfl (by rw [hml]; rfl) (Steps.refl _) (argsL := [.null]) (rest := []) (lenOf pd_0_3 rfl) rfl (by show 2 * 0 + _ ≤ _; exact Nat.le_of_eq rfl) (hb hby at_148) (fun _ _ => ⟨rfl, e217, (by decide : 2 + 0 ≤ _), (by decide : 4 + 0 ≤ _)⟩)
      dsimp only [Pt.U, Pt.locs, Pt.cells, Pt.slots] at X218 l218 y218 z218 st218 hQ218
      subst l218 y218 z218
      obtain ⟨rfl, N218q, e218⟩ := hQ218
      have N218 := Fr.app N217 N218q
      obtain ⟨_, _, ⟨T219, L219, k219, n219⟩, -, X219, ⟨Lc219, hQ219, l219, y219, z219⟩, st219⟩ := Jvm.LawKit.callS X218 hx (y := (⟨"java/lang/Integer", "valueOf", "(I)Ljava/lang/Integer;"⟩ : MethodName)) hown (mvT hZ (hw _ (List.mem_of_getElem? (i := 25) rfl))) (mvT hZ (hw _ (List.mem_of_getElem? (i := 26) rfl))) (mvT hZ (hw _ (List.mem_of_getElem? (i := 27) rfl))) (mvT hZ (hw _ (List.mem_of_getElem? (i := 28) rfl))) (by decide) (backOf (W := 1) (rm5 l Z a0 hw [] p1 w_cache cl_w T204.heap n0 Zs215 AR hsz hel Od214 (Sz_high.ext Od214.2) (Sz_cache.ext Od214.2)) hZ (hw _ (List.mem_of_getElem? (i := 28) rfl)) (hw _ (List.mem_of_getElem? (i := 27) rfl)) (by decide) (by decide)) (g := (mkF m 157 #[.val (.int p1), .val (.int p2), .val (.int p3), .val (.int p4), .val (.int p5), .val (.int (f1 (1 : Int32) (p1 &&& (2147483647 : Int32)))), .val (.int (f1 (1 : Int32) (p2 &&& (2147483647 : Int32)))), .val (.int (f1 (1 : Int32) (p1 &&& (2147483647 : Int32)))), .val (.int (f1 (1 : Int32) (p2 &&& (2147483647 : Int32)))), .val (.ref b197), .val (.ref b203), .val (.int (1 : Int32))] [(.int p1), (.ref b197)])) rfl (by rw [hml]; rfl) (argsL := [(.int p1)]) (rest := [(.ref b197)]) (lenOf pd_0_4 rfl) rfl (by show 2 * 0 + _ ≤ _; exact Nat.le_of_eq rfl) (hb hby at_157) (fun _ _ => ⟨rfl, e218, (by decide : 2 + 1 ≤ _), (by decide : 4 + 1 ≤ _)⟩)
      dsimp only [Pt.U, Pt.locs, Pt.cells, Pt.slots] at X219 l219 y219 z219 st219 hQ219
      subst l219 y219 z219
      obtain ⟨r219, rfl, N219q, Kp219, qp219_0⟩ := hQ219
      have N219 := Fr.app N218 N219q
      have F221 := (F211.keep Kp219 nin0)
      have F222 := (F212.keep Kp219 nin0)
      have F223 := (qp204_1.keep Kp219 nin0)
      have F224 := (qp204_2.keep Kp219 nin0)
      have Ex225 := (Ex213.keep Kp219)
      have Ex226 := (qp204_0.keep Kp219)
      have Od227 := (Od214.keep Kp219 all0)
      have Zs228 : n0 ≤ T219.heap.size := (Nat.le_trans Zs215 Kp219.1)
      obtain ⟨cq220, kq220, q220a, q220b, q220c⟩ := isOf hZ rfl Ex225
      obtain ⟨_, _, ⟨T220, L220, k220, n220⟩, -, X220, ⟨Lc220, hQ220, l220, y220, z220⟩, st220⟩ := X219.virtualBack hx (y := (⟨"com/example/neat_contract/neatcontract/document/Position", "equals", "(Ljava/lang/Object;)Z"⟩ : MethodName)) (z := (⟨"com/example/neat_contract/neatcontract/document/Position", "equals", "(Ljava/lang/Object;)Z"⟩ : MethodName)) hown (mvT hZ (hw _ (List.mem_of_getElem? (i := 18) rfl))) (mvT hZ (hw _ (List.mem_of_getElem? (i := 19) rfl))) (notFace_of_selects (args := #[]) (mvT hZ (hw _ (List.mem_of_getElem? (i := 21) rfl)))) (mvT hZ (hw _ (List.mem_of_getElem? (i := 21) rfl))) (mvT hZ (hw _ (List.mem_of_getElem? (i := 20) rfl))) (by decide) (backOf (W := 0) (rm204 l Z a0 hw [] b197 r219 T219.heap n0 Zs228 (own_ni (hw _ (List.mem_of_getElem? (i := 32) rfl)) (hw _ (List.mem_of_getElem? (i := 33) rfl)) (hw _ (List.mem_of_getElem? (i := 34) rfl)) (hw _ (List.mem_of_getElem? (i := 6) rfl)) (by decide) (by decide) (by decide)) qp219_0) hZ (hw _ (List.mem_of_getElem? (i := 22) rfl)) (hw _ (List.mem_of_getElem? (i := 7) rfl)) (by decide) (by decide)) q220a q220c (g := (mkF m 160 #[.val (.int p1), .val (.int p2), .val (.int p3), .val (.int p4), .val (.int p5), .val (.int (f1 (1 : Int32) (p1 &&& (2147483647 : Int32)))), .val (.int (f1 (1 : Int32) (p2 &&& (2147483647 : Int32)))), .val (.int (f1 (1 : Int32) (p1 &&& (2147483647 : Int32)))), .val (.int (f1 (1 : Int32) (p2 &&& (2147483647 : Int32)))), .val (.ref b197), .val (.ref b203), .val (.int (1 : Int32))] [(.ref r219), (.ref b197)])) rfl (by rw [hml]; rfl) (Steps.refl _) (argsL := [(.ref r219)]) (rest := []) (lenOf pd_0_3 rfl) rfl (by show 2 * 0 + _ ≤ _; exact Nat.le_of_eq rfl) (hb hby at_160) (fun _ _ => ⟨rfl, rfl, (by decide : 3 + 0 ≤ _), (by decide : 5 + 0 ≤ _)⟩)
      dsimp only [Pt.U, Pt.locs, Pt.cells, Pt.slots] at X220 l220 y220 z220 st220 hQ220
      subst l220 y220 z220
      obtain ⟨rfl, N220q, e220⟩ := hQ220
      have N220 := Fr.app N219 N220q
      obtain ⟨fs, hr, hrun, hended, hW, hsame⟩ := X220.leave (v := some (.int (1 : Int32))) (fun h => by rw [Bd.returns] at h; cases h) (by first | exact BodyLoose.notSynchronized Bd | exact Body.notSynchronized Bd)
      refine ⟨_, _, pre141 _ ?_, hrun, hended, _, _, rfl, ?_, ⟨_, rfl⟩, hW, hsame.mono (by decide) (by decide)⟩
      · show Steps p.tables e below (T7.setTop (mkF m 46 #[.val (.int p1), .val (.int p2), .val (.int p3), .val (.int p4), .val (.int p5), .val (.int (f1 (1 : Int32) (p1 &&& (2147483647 : Int32)))), .val (.int (f1 (1 : Int32) (p2 &&& (2147483647 : Int32)))), .val (.int (f1 (1 : Int32) (p1 &&& (2147483647 : Int32)))), .unset, .unset, .unset, .unset] [(.int (p5 &&& (2 : Int32)))])) _
        refine XS.ifNo X7.here hx rfl (hb hby at_46) rfl ((if0 _ _).trans (feq hc142).1) ?_
        show Steps p.tables e below (T7.setTop (mkF m 49 _ [])) _
        refine XS.iload X7.here hx rfl (hb hby at_49) rfl ?_
        show Steps p.tables e below (T7.setTop (mkF m 51 _ [(.int (f1 (1 : Int32) (p2 &&& (2147483647 : Int32))))])) _
        refine XS.goto X7.here hx rfl (pc0 := 51) (pc' := 62) rfl (hb hby at_51) (by decide) (by decide) ?_
        show Steps p.tables e below (T7.setTop (mkF m 62 _ [(.int (f1 (1 : Int32) (p2 &&& (2147483647 : Int32))))])) _
        refine XS.istore X7.here hx rfl (hb hby at_62) rfl (l' := #[.val (.int p1), .val (.int p2), .val (.int p3), .val (.int p4), .val (.int p5), .val (.int (f1 (1 : Int32) (p1 &&& (2147483647 : Int32)))), .val (.int (f1 (1 : Int32) (p2 &&& (2147483647 : Int32)))), .val (.int (f1 (1 : Int32) (p1 &&& (2147483647 : Int32)))), .val (.int (f1 (1 : Int32) (p2 &&& (2147483647 : Int32)))), .unset, .unset, .unset]) rfl ?_
        show Steps p.tables e below (T7.setTop (mkF m 64 _ [])) _
        refine st197 _ ?_
        show Steps p.tables e below (T197.setTop (mkF m 67 _ [(.ref b197)])) _
        refine XS.dup X197.here hx rfl (hb hby at_67) rfl rfl ?_
        show Steps p.tables e below (T197.setTop (mkF m 68 _ [(.ref b197), (.ref b197)])) _
        refine XS.iload X197.here hx rfl (hb hby at_68) rfl ?_
        show Steps p.tables e below (T197.setTop (mkF m 70 _ [(.int (f1 (1 : Int32) (p1 &&& (2147483647 : Int32)))), (.ref b197), (.ref b197)])) _
        refine XS.iload X197.here hx rfl (hb hby at_70) rfl ?_
        show Steps p.tables e below (T197.setTop (mkF m 72 _ [(.int (f1 (1 : Int32) (p2 &&& (2147483647 : Int32)))), (.int (f1 (1 : Int32) (p1 &&& (2147483647 : Int32)))), (.ref b197), (.ref b197)])) _
        refine st198.trans ?_
        show Steps p.tables e below (T198.setTop (mkF m 75 _ [(.ref b197)])) _
        refine XS.astore X198.here hx rfl (hb hby at_75) rfl rfl (l' := #[.val (.int p1), .val (.int p2), .val (.int p3), .val (.int p4), .val (.int p5), .val (.int (f1 (1 : Int32) (p1 &&& (2147483647 : Int32)))), .val (.int (f1 (1 : Int32) (p2 &&& (2147483647 : Int32)))), .val (.int (f1 (1 : Int32) (p1 &&& (2147483647 : Int32)))), .val (.int (f1 (1 : Int32) (p2 &&& (2147483647 : Int32)))), .val (.ref b197), .unset, .unset]) rfl ?_
        show Steps p.tables e below (T198.setTop (mkF m 77 _ [])) _
        refine st203 _ ?_
        show Steps p.tables e below (T203.setTop (mkF m 80 _ [(.ref b203)])) _
        refine XS.dup X203.here hx rfl (hb hby at_80) rfl rfl ?_
        show Steps p.tables e below (T203.setTop (mkF m 81 _ [(.ref b203), (.ref b203)])) _
        refine XS.iload X203.here hx rfl (hb hby at_81) rfl ?_
        show Steps p.tables e below (T203.setTop (mkF m 83 _ [(.int (f1 (1 : Int32) (p1 &&& (2147483647 : Int32)))), (.ref b203), (.ref b203)])) _
        refine XS.iload X203.here hx rfl (hb hby at_83) rfl ?_
        show Steps p.tables e below (T203.setTop (mkF m 85 _ [(.int (f1 (1 : Int32) (p2 &&& (2147483647 : Int32)))), (.int (f1 (1 : Int32) (p1 &&& (2147483647 : Int32)))), (.ref b203), (.ref b203)])) _
        refine st204.trans ?_
        show Steps p.tables e below (T204.setTop (mkF m 88 _ [(.ref b203)])) _
        refine XS.astore X204.here hx rfl (hb hby at_88) rfl rfl (l' := #[.val (.int p1), .val (.int p2), .val (.int p3), .val (.int p4), .val (.int p5), .val (.int (f1 (1 : Int32) (p1 &&& (2147483647 : Int32)))), .val (.int (f1 (1 : Int32) (p2 &&& (2147483647 : Int32)))), .val (.int (f1 (1 : Int32) (p1 &&& (2147483647 : Int32)))), .val (.int (f1 (1 : Int32) (p2 &&& (2147483647 : Int32)))), .val (.ref b197), .val (.ref b203), .unset]) rfl ?_
        show Steps p.tables e below (T204.setTop (mkF m 90 _ [])) _
        refine XS.iload X204.here hx rfl (hb hby at_90) rfl ?_
        show Steps p.tables e below (T204.setTop (mkF m 92 _ [(.int (f1 (1 : Int32) (p1 &&& (2147483647 : Int32))))])) _
        refine XS.iload X204.here hx rfl (hb hby at_92) rfl ?_
        show Steps p.tables e below (T204.setTop (mkF m 94 _ [(.int (f1 (1 : Int32) (p1 &&& (2147483647 : Int32)))), (.int (f1 (1 : Int32) (p1 &&& (2147483647 : Int32))))])) _
        refine XS.icmpNo X204.here hx rfl (hb hby at_94) rfl (teq rfl).2 ?_
        show Steps p.tables e below (T204.setTop (mkF m 97 _ [])) _
        refine XS.iload X204.here hx rfl (hb hby at_97) rfl ?_
        show Steps p.tables e below (T204.setTop (mkF m 99 _ [(.int (f1 (1 : Int32) (p2 &&& (2147483647 : Int32))))])) _
        refine XS.iload X204.here hx rfl (hb hby at_99) rfl ?_
        show Steps p.tables e below (T204.setTop (mkF m 101 _ [(.int (f1 (1 : Int32) (p2 &&& (2147483647 : Int32)))), (.int (f1 (1 : Int32) (p2 &&& (2147483647 : Int32))))])) _
        refine XS.icmpNo X204.here hx rfl (hb hby at_101) rfl (teq rfl).2 ?_
        show Steps p.tables e below (T204.setTop (mkF m 104 _ [])) _
        refine XS.iconst X204.here hx rfl (hb hby at_104) ?_
        show Steps p.tables e below (T204.setTop (mkF m 105 _ [(.int (1 : Int32))])) _
        refine XS.goto X204.here hx rfl (pc0 := 105) (pc' := 109) rfl (hb hby at_105) (by decide) (by decide) ?_
        show Steps p.tables e below (T204.setTop (mkF m 109 _ [(.int (1 : Int32))])) _
        refine XS.istore X204.here hx rfl (hb hby at_109) rfl (l' := #[.val (.int p1), .val (.int p2), .val (.int p3), .val (.int p4), .val (.int p5), .val (.int (f1 (1 : Int32) (p1 &&& (2147483647 : Int32)))), .val (.int (f1 (1 : Int32) (p2 &&& (2147483647 : Int32)))), .val (.int (f1 (1 : Int32) (p1 &&& (2147483647 : Int32)))), .val (.int (f1 (1 : Int32) (p2 &&& (2147483647 : Int32)))), .val (.ref b197), .val (.ref b203), .val (.int (1 : Int32))]) rfl ?_
        show Steps p.tables e below (T204.setTop (mkF m 111 _ [])) _
        refine XS.aload X204.here hx rfl (hb hby at_111) rfl rfl ?_
        show Steps p.tables e below (T204.setTop (mkF m 113 _ [(.ref b197)])) _
        refine XS.aload X204.here hx rfl (hb hby at_113) rfl rfl ?_
        show Steps p.tables e below (T204.setTop (mkF m 115 _ [(.ref b203), (.ref b197)])) _
        refine st210.trans ?_
        show Steps p.tables e below (T210.setTop (mkF m 118 _ [(.int (f4 (f1 (1 : Int32) (p1 &&& (2147483647 : Int32))) (f1 (1 : Int32) (p1 &&& (2147483647 : Int32))) (f1 (1 : Int32) (p2 &&& (2147483647 : Int32))) (f1 (1 : Int32) (p2 &&& (2147483647 : Int32)))))])) _
        refine XS.iload X210.here hx rfl (hb hby at_118) rfl ?_
        show Steps p.tables e below (T210.setTop (mkF m 120 _ [(.int (1 : Int32)), (.int (f4 (f1 (1 : Int32) (p1 &&& (2147483647 : Int32))) (f1 (1 : Int32) (p1 &&& (2147483647 : Int32))) (f1 (1 : Int32) (p2 &&& (2147483647 : Int32))) (f1 (1 : Int32) (p2 &&& (2147483647 : Int32)))))])) _
        refine XS.icmpNo X210.here hx rfl (hb hby at_120) rfl (teq (by simp [f4, *])).2 ?_
        show Steps p.tables e below (T210.setTop (mkF m 123 _ [])) _
        refine XS.aload X210.here hx rfl (hb hby at_123) rfl rfl ?_
        show Steps p.tables e below (T210.setTop (mkF m 125 _ [(.ref b203)])) _
        refine XS.aload X210.here hx rfl (hb hby at_125) rfl rfl ?_
        show Steps p.tables e below (T210.setTop (mkF m 127 _ [(.ref b197), (.ref b203)])) _
        refine st216.trans ?_
        show Steps p.tables e below (T216.setTop (mkF m 130 _ [(.int (f4 (f1 (1 : Int32) (p1 &&& (2147483647 : Int32))) (f1 (1 : Int32) (p1 &&& (2147483647 : Int32))) (f1 (1 : Int32) (p2 &&& (2147483647 : Int32))) (f1 (1 : Int32) (p2 &&& (2147483647 : Int32)))))])) _
        refine XS.iload X216.here hx rfl (hb hby at_130) rfl ?_
        show Steps p.tables e below (T216.setTop (mkF m 132 _ [(.int (1 : Int32)), (.int (f4 (f1 (1 : Int32) (p1 &&& (2147483647 : Int32))) (f1 (1 : Int32) (p1 &&& (2147483647 : Int32))) (f1 (1 : Int32) (p2 &&& (2147483647 : Int32))) (f1 (1 : Int32) (p2 &&& (2147483647 : Int32)))))])) _
        refine XS.icmpNo X216.here hx rfl (hb hby at_132) rfl (teq (by rw [own_sym]; simp [f4, *])).2 ?_
        show Steps p.tables e below (T216.setTop (mkF m 135 _ [])) _
        refine XS.aload X216.here hx rfl (hb hby at_135) rfl rfl ?_
        show Steps p.tables e below (T216.setTop (mkF m 137 _ [(.ref b197)])) _
        refine XS.aload X216.here hx rfl (hb hby at_137) rfl rfl ?_
        show Steps p.tables e below (T216.setTop (mkF m 139 _ [(.ref b197), (.ref b197)])) _
        refine st217.trans ?_
        show Steps p.tables e below (T217.setTop (mkF m 142 _ [(.int (f4 (f1 (1 : Int32) (p1 &&& (2147483647 : Int32))) (f1 (1 : Int32) (p1 &&& (2147483647 : Int32))) (f1 (1 : Int32) (p2 &&& (2147483647 : Int32))) (f1 (1 : Int32) (p2 &&& (2147483647 : Int32)))))])) _
        refine XS.ifNo X217.here hx rfl (hb hby at_142) rfl ((if0 _ _).trans (feq (by simp [f4])).1) ?_
        show Steps p.tables e below (T217.setTop (mkF m 145 _ [])) _
        refine XS.aload X217.here hx rfl (hb hby at_145) rfl rfl ?_
        show Steps p.tables e below (T217.setTop (mkF m 147 _ [(.ref b197)])) _
        refine XS.aconstNull X217.here hx rfl (hb hby at_147) ?_
        show Steps p.tables e below (T217.setTop (mkF m 148 _ [.null, (.ref b197)])) _
        refine st218.trans ?_
        show Steps p.tables e below (T218.setTop (mkF m 151 _ [(.int (0 : Int32))])) _
        refine XS.ifNo X218.here hx rfl (hb hby at_151) rfl ((if0 _ _).trans (teq (by decide)).2) ?_
        show Steps p.tables e below (T218.setTop (mkF m 154 _ [])) _
        refine XS.aload X218.here hx rfl (hb hby at_154) rfl rfl ?_
        show Steps p.tables e below (T218.setTop (mkF m 156 _ [(.ref b197)])) _
        refine XS.iloadN X218.here hx rfl (hb hby at_156) rfl ?_
        show Steps p.tables e below (T218.setTop (mkF m 157 _ [(.int p1), (.ref b197)])) _
        refine st219 _ ?_
        show Steps p.tables e below (T219.setTop (mkF m 160 _ [(.ref r219), (.ref b197)])) _
        refine st220.trans ?_
        show Steps p.tables e below (T220.setTop (mkF m 163 _ [(.int (0 : Int32))])) _
        refine XS.ifNo X220.here hx rfl (hb hby at_163) rfl ((if0 _ _).trans (teq (by decide)).2) ?_
        show Steps p.tables e below (T220.setTop (mkF m 166 _ [])) _
        refine XS.iconst X220.here hx rfl (hb hby at_166) ?_
        show Steps p.tables e below (T220.setTop (mkF m 167 _ [(.int (1 : Int32))])) _
        refine XS.goto X220.here hx rfl (pc0 := 167) (pc' := 171) rfl (hb hby at_167) (by decide) (by decide) ?_
        show Steps p.tables e below (T220.setTop (mkF m 171 #[.val (.int p1), .val (.int p2), .val (.int p3), .val (.int p4), .val (.int p5), .val (.int (f1 (1 : Int32) (p1 &&& (2147483647 : Int32)))), .val (.int (f1 (1 : Int32) (p2 &&& (2147483647 : Int32)))), .val (.int (f1 (1 : Int32) (p1 &&& (2147483647 : Int32)))), .val (.int (f1 (1 : Int32) (p2 &&& (2147483647 : Int32)))), .val (.ref b197), .val (.ref b203), .val (.int (1 : Int32))] [(.int (1 : Int32))])) _
        exact retN X220 hx (t := .boolean) Bd.returns (by simp) (hb hby at_171) hr
      · show Q0 Z p1 p2 p3 p4 p5 w_cache cl_w h0 n0 _ T220.heap _
        rw [e220]
        exact ⟨congrArg (fun z => some (Value.int z)) (by rw [f0, if_neg hc9, if_neg hc142] : f0 p1 p2 p3 p4 p5 w_cache cl_w = (1 : Int32)).symm, N220⟩
theorem own_plain (p1 p2 p3 p4 p5 : Int32) (w : Addr) (cl : Cell) : f0 p1 p2 p3 p4 p5 w cl = 1 := by
  unfold f0
  (repeat' split) <;> rfl
set_option maxRecDepth 65536 in
set_option maxHeartbeats 40000000 in
theorem comes_1 {Post : Tables → Env → Array Value → State → Outcome → State → Prop} (hpost : ∀ tb e args s v u, (limb_1_1.after args s (.returned v) u = true ∧ limb_1_2.after args s (.returned v) u = true ∧ True) → FrameEnd s (.returned v) u (Jvm.fieldLocs frame_1_writes args s ++ Jvm.arrayLocs frame_1_arrays args s ++ Jvm.staticLocs frame_1_statics s) 16 128 → Post tb e args s (.returned v) u) :
    ArmFor flags0 classFile x code maxLocals ret World_1 tables_1 room_1 Calls_1 rest_1 Pre_1 Post := by
  intro l hfl _ _ p e ha hc hk s m args below hf hA hF happ hP
  obtain ⟨hcalls, hrest, hpre⟩ := hP
  obtain ⟨-, -, -, hnamed, -, -, -, hat⟩ := (Spec.applies_iff hf).mp happ
  obtain ⟨hg, hn⟩ := and_e (Cond.before_iff.mp (show (Jvm.Cond.and given_1 narrow_1).before args s = true from hpre))
  obtain ⟨gc, hg⟩ := and_e hg
  obtain ⟨gi0, hg⟩ := and_e hg
  obtain ⟨gi1, hg⟩ := and_e hg
  obtain ⟨gi2, hg⟩ := and_e hg
  obtain ⟨gi3, hg⟩ := and_e hg
  obtain ⟨w0, w1, w2, w3, w4, rfl⟩ : ∃ w0 w1 w2 w3 w4 : Value, args = #[w0, w1, w2, w3, w4] := by
    have hs : args.size = 5 := by simpa [Cond.value, given_1] using gc
    obtain ⟨L⟩ := args
    match L, hs with
    | [w0, w1, w2, w3, w4], _ => exact ⟨w0, w1, w2, w3, w4, rfl⟩
  have hw := fun d (hd : d ∈ tables_1) => atoms_spec (ws := Jvm.Cond.code x code maxLocals ret :: tables_1) hat d (List.mem_cons_of_mem _ hd)
  obtain ⟨i0, ei0⟩ := is_v gi0
  obtain rfl : w0 = (.int i0) := Option.some.inj ei0
  obtain ⟨i1, ei1⟩ := is_v gi1
  obtain rfl : w1 = (.int i1) := Option.some.inj ei1
  obtain ⟨i2, ei2⟩ := is_v gi2
  obtain rfl : w2 = (.int i2) := Option.some.inj ei2
  obtain ⟨i3, ei3⟩ := is_v gi3
  obtain rfl : w3 = (.int i3) := Option.some.inj ei3
  obtain ⟨i4, ei4⟩ := is_v hg
  obtain rfl : w4 = (.int i4) := Option.some.inj ei4
  obtain ⟨hsets, hown0⟩ := atoms_of _ (rest_1_c_eq ▸ (show rest_1_c.before _ s = true from hrest))
  have evh : (Jvm.Term.static "java/lang/Integer$IntegerCache" "high" "I").eval _ s none [] s = some (.int (127 : Int32)) := own_int (Cond.before_iff.mp (hsets _ (List.mem_of_getElem? (i := 3) rfl)))
  have Sz_high := Sta.start evh (Or.inl (hsets _ (List.mem_of_getElem? (i := 1) rfl)))
  obtain ⟨w_cache, evc⟩ := arr_v (Cond.before_iff.mp (hsets _ (List.mem_of_getElem? (i := 4) rfl)))
  have Sz_cache := Sta.start evc (Or.inr ⟨(hw _ (List.mem_of_getElem? (i := 30) rfl)), (hsets _ (List.mem_of_getElem? (i := 2) rfl))⟩)
  obtain ⟨cl_w, AR⟩ := Arr.start evc (Cond.before_iff.mp (hsets _ (List.mem_of_getElem? (i := 4) rfl)))
  have hAt := Jvm.Free.IntBox.arrayAt_of AR.1 AR.2.1 AR.2.2
  obtain ⟨hz1, hz2⟩ := Jvm.Free.IntBox.length_fwd (hsets _ (List.mem_of_getElem? (i := 6) rfl)) evc AR.1 AR.2.1 AR.2.2
  have hsz : cl_w.slots.size = 256 := own_size hz1 hz2
  have hel := own_hel (fun idx => evc) hAt hsz (Cond.before_iff.mp (hsets _ (List.mem_of_getElem? (i := 7) rfl)))
  have O0 := Old.start s
  obtain ⟨n, o, h1, h2, h3, vr, L, rfl, ⟨hvr, N⟩, hq⟩ := rm0 l s _ hw tables_1 i0 i1 i2 i3 i4 w_cache cl_w s.heap s.heap.size (Nat.le_refl _) Sz_high Sz_cache AR hsz hel O0 p e ha hc hk s m _ below hf ((Spec.applies_iff_loose hf).mp happ).1 ⟨rfl, State.Warmed39.refl s, rfl⟩ trivial
  have hpl : f0 i0 i1 i2 i3 i4 w_cache cl_w = 1 := own_plain i0 i1 i2 i3 i4 w_cache cl_w 
  rw [hpl] at hvr
  subst hvr
  refine ⟨n, _, h1, h2, h3, hpost _ _ _ _ _ _ ⟨Cond.after_iff.mpr rfl, Cond.after_iff.mpr (eq_i res_at (Term.int_eval (1)) rfl), trivial⟩ ⟨hq.1, hq.2.1, (hq.2.2.sift fun y hy => Or.inr (N y hy)).mono (by decide) (by decide)⟩⟩
theorem main_1_1 : Claimed_1_1 := comes_1 fun _ _ _ _ _ _ h hF => ⟨h.1, hF⟩
theorem main_1_2 : Claimed_1_2 := comes_1 fun _ _ _ _ _ _ h hF => ⟨h.2.1, hF⟩

end Jvm.Pilot.@@N@@
namespace Jvm.Pilot.@@N@@
open Jvm Jvm.ClassFile Sem Op Lib Jvm.Free Jvm.Stand Jvm.Pilot.@@N@@.Jvm.D
/-! MADE BY PROGRAM (witnessworld.py) out of the Statement's table words and the real class files: 17 classes; the members and pool entries that the words name. The judged class is class 1, her method 1. -/
namespace start1
open Jvm.ClassFile
def u (s : String) : CpInfo := .utf8 (stringToUtf16 s)
/-- a pool by its gaps: so many unusable entries, then the entry; so many at the end -/
def gap : Nat → List CpInfo → List CpInfo
  | 0, r => r
  | n + 1, r => .unusable :: gap n r
def poolList (es : List (Nat × CpInfo)) (last : Nat) : List CpInfo := es.foldr (fun e r => gap e.1 (e.2 :: r)) (gap last [])
def pool (es : List (Nat × CpInfo)) (last : Nat) : Array CpInfo := ⟨poolList es last⟩
def fileOf (pool : Array CpInfo) (this : Nat) (attrs : Array Attribute := #[]) (ms : Array MethodInfo := #[]) (fl : Nat := 33) (sup : Nat := 0) (ifs : Array Nat := #[]) (fds : Array FieldInfo := #[]) : ClassFile where
  minorVersion := 0
  majorVersion := 65
  constantPool := pool
  accessFlags := fl
  thisClass := this
  superClass := sup
  interfaces := ifs
  fields := fds
  methods := ms
  attributes := attrs
def plain (name : String) (sup : Option ClassId) : Class where
  name := name
  kind := .ordinary
  loader := none
  accessFlags := 33
  super := sup
  interfaces := #[]
  cf := none
  fields := #[]
  methods := #[]
  instanceTypes := #[]
  staticTypes := #[]
  resolved := #[]
  callSites := []
  init := .initialized
  statics := none
  mirror := none

def pool0 : Array CpInfo := pool [(5, u "<init>"), (0, u "()V"), (1, .class_ 10), (1, u "java/lang/Object")] 113

def k0c0 : Code := { maxStack := 0, maxLocals := 1, code := object_method_1_code, exceptionTable := #[], attributes := #[] }
def k0m0 : Method := { name := "<init>", desc := "()V", sig := { parameters := [], returnType := none }, accessFlags := 1, code := some k0c0 }
/-- java/lang/Object -/
def k0 : Class := { plain "java/lang/Object" none with
  accessFlags := 33
  interfaces := #[]
  cf := some (fileOf pool0 8 #[] #[{ accessFlags := 1, nameIndex := 5, descriptorIndex := 6, attributes := #[] }] 33 0 #[] #[])
  fields := #[]
  methods := #[k0m0]
  instanceTypes := #[]
  staticTypes := #[]
  resolved := Array.replicate 124 none
  statics := none }

def pool1 : Array CpInfo := pool [(2, .class_ 4), (1, u "java/lang/Object"), (0, u "<init>"), (0, u "()V"), (0, .integer 2147483647), (0, .methodref 9 10), (0, .class_ 11), (0, .nameAndType 12 13), (0, u "java/lang/Math"), (0, u "max"), (0, u "(II)I"), (0, .class_ 15), (0, u "com/example/neat_contract/neatcontract/document/Position"), (0, .methodref 14 17), (0, .nameAndType 5 18), (0, u "(II)V"), (0, .methodref 14 20), (0, .nameAndType 21 22), (0, u "equals"), (0, u "(Ljava/lang/Object;)Z"), (0, .methodref 24 25), (0, .class_ 26), (0, .nameAndType 27 28), (0, u "java/lang/Integer"), (0, u "valueOf"), (0, u "(I)Ljava/lang/Integer;"), (0, .class_ 30), (0, u "com/example/neat_contract/neatcontract/document/PositionEqualsPinLaw"), (2, u "law"), (0, u "(IIIII)Z")] 3

def k1m0 : Method := { name := "<init>", desc := "()V", sig := { parameters := [], returnType := none }, accessFlags := 1, code := none }
def k1c1 : Code := { maxStack := 4, maxLocals := 12, code := code, exceptionTable := #[], attributes := #[] }
def k1m1 : Method := { name := "law", desc := "(IIIII)Z", sig := { parameters := [.int, .int, .int, .int, .int], returnType := some .boolean }, accessFlags := 9, code := some k1c1 }
/-- com/example/neat_contract/neatcontract/document/PositionEqualsPinLaw -/
def k1 : Class := { plain "com/example/neat_contract/neatcontract/document/PositionEqualsPinLaw" (some 0) with
  accessFlags := 49
  interfaces := #[]
  cf := some (fileOf pool1 29 #[] #[{ accessFlags := 1, nameIndex := 5, descriptorIndex := 6, attributes := #[] }, { accessFlags := 9, nameIndex := 33, descriptorIndex := 34, attributes := #[] }] 49 2 #[] #[])
  fields := #[]
  methods := #[k1m0, k1m1]
  instanceTypes := #[]
  staticTypes := #[]
  resolved := Array.replicate 38 none
  statics := none }

def pool2 : Array CpInfo := pool [(1, .class_ 2), (0, u "java/lang/Math"), (1, .class_ 6), (1, u "java/lang/Object"), (0, u "<init>"), (0, u "()V"), (89, .class_ 100), (1, u "java/lang/Math$RandomNumberGeneratorHolder"), (71, u "negativeZeroFloatBits"), (0, u "J"), (2, u "negativeZeroDoubleBits"), (21, u "max"), (46, u "$assertionsDisabled"), (0, u "Z"), (88, u "(II)I"), (2, u "twoToTheDoubleScaleDown"), (0, u "D"), (4, u "twoToTheDoubleScaleUp"), (9, u "E"), (3, u "PI"), (2, u "TAU"), (2, u "DEGREES_TO_RADIANS"), (0, u "RADIANS_TO_DEGREES")] 94

def k2m0 : Method := { name := "<init>", desc := "()V", sig := { parameters := [], returnType := none }, accessFlags := 2, code := none }
def k2c1 : Code := { maxStack := 2, maxLocals := 2, code := jdk_29_method_65_code, exceptionTable := #[], attributes := #[] }
def k2m1 : Method := { name := "max", desc := "(II)I", sig := { parameters := [.int, .int], returnType := some .int }, accessFlags := 9, code := some k2c1 }
/-- java/lang/Math -/
def k2 : Class := { plain "java/lang/Math" (some 0) with
  accessFlags := 49
  interfaces := #[]
  cf := some (fileOf pool2 1 #[.nestMembers #[98]] #[{ accessFlags := 2, nameIndex := 7, descriptorIndex := 8, attributes := #[] }, { accessFlags := 9, nameIndex := 198, descriptorIndex := 335, attributes := #[] }] 49 4 #[] #[{ accessFlags := 25, nameIndex := 354, descriptorIndex := 339, attributes := #[] }, { accessFlags := 25, nameIndex := 358, descriptorIndex := 339, attributes := #[] }, { accessFlags := 25, nameIndex := 361, descriptorIndex := 339, attributes := #[] }, { accessFlags := 26, nameIndex := 364, descriptorIndex := 339, attributes := #[] }, { accessFlags := 26, nameIndex := 365, descriptorIndex := 339, attributes := #[] }, { accessFlags := 26, nameIndex := 172, descriptorIndex := 173, attributes := #[] }, { accessFlags := 26, nameIndex := 176, descriptorIndex := 173, attributes := #[] }, { accessFlags := 8, nameIndex := 344, descriptorIndex := 339, attributes := #[] }, { accessFlags := 8, nameIndex := 338, descriptorIndex := 339, attributes := #[] }, { accessFlags := 4120, nameIndex := 245, descriptorIndex := 246, attributes := #[] }])
  fields := #[{ name := "E", type := .double, accessFlags := 25, slot := 0, constantValue := 0 }, { name := "PI", type := .double, accessFlags := 25, slot := 1, constantValue := 0 }, { name := "TAU", type := .double, accessFlags := 25, slot := 2, constantValue := 0 }, { name := "DEGREES_TO_RADIANS", type := .double, accessFlags := 26, slot := 3, constantValue := 0 }, { name := "RADIANS_TO_DEGREES", type := .double, accessFlags := 26, slot := 4, constantValue := 0 }, { name := "negativeZeroFloatBits", type := .long, accessFlags := 26, slot := 5, constantValue := 0 }, { name := "negativeZeroDoubleBits", type := .long, accessFlags := 26, slot := 6, constantValue := 0 }, { name := "twoToTheDoubleScaleUp", type := .double, accessFlags := 8, slot := 7, constantValue := 0 }, { name := "twoToTheDoubleScaleDown", type := .double, accessFlags := 8, slot := 8, constantValue := 0 }, { name := "$assertionsDisabled", type := .boolean, accessFlags := 4120, slot := 9, constantValue := 0 }]
  methods := #[k2m0, k2m1]
  instanceTypes := #[]
  staticTypes := #[.double, .double, .double, .double, .double, .long, .long, .double, .double, .boolean]
  resolved := Array.replicate 460 none
  statics := none }

def pool3 : Array CpInfo := pool [(1, .class_ 2), (0, u "java/lang/Comparable"), (0, .class_ 4), (0, u "java/lang/Object")] 7

/-- java/lang/Comparable -/
def k3 : Class := { plain "java/lang/Comparable" (some 0) with
  accessFlags := 1537
  interfaces := #[]
  cf := some (fileOf pool3 1 #[] #[] 1537 3 #[] #[])
  fields := #[]
  methods := #[]
  instanceTypes := #[]
  staticTypes := #[]
  resolved := Array.replicate 12 none
  statics := none }

def pool4 : Array CpInfo := pool [(1, .methodref 2 3), (0, .class_ 4), (0, .nameAndType 5 6), (0, u "java/lang/Object"), (0, u "<init>"), (0, u "()V"), (9, .fieldref 17 18), (0, .class_ 19), (0, .nameAndType 20 21), (0, u "com/example/neat_contract/neatcontract/document/Position"), (0, u "line"), (0, u "I"), (0, .fieldref 17 23), (0, .nameAndType 24 21), (0, u "column"), (11, u "(II)V"), (23, .class_ 61), (0, u "java/lang/Comparable"), (0, u "BYTE_ORDER_MARK"), (0, u "C"), (16, u "equals"), (0, u "(Ljava/lang/Object;)Z")] 24

def k4c0 : Code := { maxStack := 4, maxLocals := 3, code := prog_47_method_1_code, exceptionTable := #[], attributes := #[] }
def k4m0 : Method := { name := "<init>", desc := "(II)V", sig := { parameters := [.int, .int], returnType := none }, accessFlags := 1, code := some k4c0 }
def k4c1 : Code := { maxStack := 2, maxLocals := 3, code := prog_47_method_13_code, exceptionTable := #[], attributes := #[] }
def k4m1 : Method := { name := "equals", desc := "(Ljava/lang/Object;)Z", sig := { parameters := [(.object "java/lang/Object")], returnType := some .boolean }, accessFlags := 1, code := some k4c1 }
/-- com/example/neat_contract/neatcontract/document/Position -/
def k4 : Class := { plain "com/example/neat_contract/neatcontract/document/Position" (some 0) with
  accessFlags := 33
  interfaces := #[3]
  cf := some (fileOf pool4 17 #[] #[{ accessFlags := 1, nameIndex := 5, descriptorIndex := 36, attributes := #[] }, { accessFlags := 1, nameIndex := 80, descriptorIndex := 81, attributes := #[] }] 33 2 #[60] #[{ accessFlags := 26, nameIndex := 62, descriptorIndex := 63, attributes := #[] }, { accessFlags := 18, nameIndex := 20, descriptorIndex := 21, attributes := #[] }, { accessFlags := 18, nameIndex := 24, descriptorIndex := 21, attributes := #[] }])
  fields := #[{ name := "BYTE_ORDER_MARK", type := .char, accessFlags := 26, slot := 0, constantValue := 0 }, { name := "line", type := .int, accessFlags := 18, slot := 0, constantValue := 0 }, { name := "column", type := .int, accessFlags := 18, slot := 1, constantValue := 0 }]
  methods := #[k4m0, k4m1]
  instanceTypes := #[.int, .int]
  staticTypes := #[.char]
  resolved := Array.replicate 106 none
  statics := none }

def pool5 : Array CpInfo := pool [(1, .class_ 2), (0, u "java/io/Serializable"), (0, .class_ 4), (0, u "java/lang/Object")] 2

/-- java/io/Serializable -/
def k5 : Class := { plain "java/io/Serializable" (some 0) with
  accessFlags := 1537
  interfaces := #[]
  cf := some (fileOf pool5 1 #[] #[] 1537 3 #[] #[])
  fields := #[]
  methods := #[]
  instanceTypes := #[]
  staticTypes := #[]
  resolved := Array.replicate 7 none
  statics := none }

def pool6 : Array CpInfo := pool [(1, .methodref 2 3), (0, .class_ 4), (0, .nameAndType 5 6), (0, u "java/lang/Object"), (0, u "<init>"), (0, u "()V"), (1, .class_ 10), (1, u "java/lang/Number"), (2, .class_ 14), (0, u "java/io/Serializable"), (0, u "serialVersionUID"), (0, u "J")] 20

def k6c0 : Code := { maxStack := 1, maxLocals := 1, code := jdk_18_method_1_code, exceptionTable := #[], attributes := #[] }
def k6m0 : Method := { name := "<init>", desc := "()V", sig := { parameters := [], returnType := none }, accessFlags := 1, code := some k6c0 }
/-- java/lang/Number -/
def k6 : Class := { plain "java/lang/Number" (some 0) with
  accessFlags := 1057
  interfaces := #[5]
  cf := some (fileOf pool6 8 #[] #[{ accessFlags := 1, nameIndex := 5, descriptorIndex := 6, attributes := #[] }] 1057 2 #[13] #[{ accessFlags := 26, nameIndex := 15, descriptorIndex := 16, attributes := #[] }])
  fields := #[{ name := "serialVersionUID", type := .long, accessFlags := 26, slot := 0, constantValue := 0 }]
  methods := #[k6m0]
  instanceTypes := #[]
  staticTypes := #[.long]
  resolved := Array.replicate 37 none
  statics := none }

def pool7 : Array CpInfo := pool [(1, .class_ 2), (0, u "java/lang/constant/Constable"), (0, .class_ 4), (0, u "java/lang/Object")] 6

/-- java/lang/constant/Constable -/
def k7 : Class := { plain "java/lang/constant/Constable" (some 0) with
  accessFlags := 1537
  interfaces := #[]
  cf := some (fileOf pool7 1 #[] #[] 1537 3 #[] #[])
  fields := #[]
  methods := #[]
  instanceTypes := #[]
  staticTypes := #[]
  resolved := Array.replicate 11 none
  statics := none }

def pool8 : Array CpInfo := pool [(1, .class_ 2), (0, u "java/lang/constant/ConstantDesc"), (0, .class_ 4), (0, u "java/lang/Object")] 32

/-- java/lang/constant/ConstantDesc -/
def k8 : Class := { plain "java/lang/constant/ConstantDesc" (some 0) with
  accessFlags := 1537
  interfaces := #[]
  cf := some (fileOf pool8 1 #[] #[] 1537 3 #[] #[])
  fields := #[]
  methods := #[]
  instanceTypes := #[]
  staticTypes := #[]
  resolved := Array.replicate 37 none
  statics := none }

def pool9 : Array CpInfo := pool [(1, .class_ 2), (0, u "java/lang/Integer"), (16, u "digits"), (0, u "[C"), (46, u "<init>"), (17, u "DigitOnes"), (0, u "[B"), (2, u "DigitTens"), (10, .nameAndType 67 101), (0, u "()V"), (85, u "valueOf"), (0, u "(I)Ljava/lang/Integer;"), (0, .class_ 190), (0, u "java/lang/Integer$IntegerCache"), (0, .fieldref 189 192), (0, .nameAndType 193 194), (0, u "high"), (0, u "I"), (0, .fieldref 189 196), (0, .nameAndType 197 198), (0, u "cache"), (0, u "[Ljava/lang/Integer;"), (0, .methodref 1 200), (0, .nameAndType 67 201), (0, u "(I)V"), (0, .methodref 203 100), (0, .class_ 204), (0, u "java/lang/Number"), (0, .fieldref 1 206), (0, .nameAndType 207 194), (0, u "value"), (94, u "TYPE"), (0, u "Ljava/lang/Class;"), (0, .class_ 305), (0, u "java/lang/Comparable"), (0, .class_ 307), (0, u "java/lang/constant/Constable"), (0, .class_ 309), (0, u "java/lang/constant/ConstantDesc"), (0, u "MIN_VALUE"), (1, u "MAX_VALUE"), (3, u "SIZE"), (1, u "BYTES"), (1, u "serialVersionUID"), (0, u "J")] 131

def k9c0 : Code := { maxStack := 3, maxLocals := 1, code := jdk_33_method_22_code, exceptionTable := #[], attributes := #[] }
def k9m0 : Method := { name := "valueOf", desc := "(I)Ljava/lang/Integer;", sig := { parameters := [.int], returnType := some (.object "java/lang/Integer") }, accessFlags := 9, code := some k9c0 }
def k9c1 : Code := { maxStack := 2, maxLocals := 2, code := jdk_33_method_23_code, exceptionTable := #[], attributes := #[] }
def k9m1 : Method := { name := "<init>", desc := "(I)V", sig := { parameters := [.int], returnType := none }, accessFlags := 1, code := some k9c1 }
/-- java/lang/Integer -/
def k9 : Class := { plain "java/lang/Integer" (some 6) with
  accessFlags := 49
  interfaces := #[3, 7, 8]
  cf := some (fileOf pool9 1 #[.nestMembers #[189]] #[{ accessFlags := 9, nameIndex := 187, descriptorIndex := 188, attributes := #[] }, { accessFlags := 1, nameIndex := 67, descriptorIndex := 201, attributes := #[] }] 49 203 #[304, 306, 308] #[{ accessFlags := 25, nameIndex := 310, descriptorIndex := 194, attributes := #[] }, { accessFlags := 25, nameIndex := 312, descriptorIndex := 194, attributes := #[] }, { accessFlags := 25, nameIndex := 302, descriptorIndex := 303, attributes := #[] }, { accessFlags := 24, nameIndex := 19, descriptorIndex := 20, attributes := #[] }, { accessFlags := 24, nameIndex := 89, descriptorIndex := 86, attributes := #[] }, { accessFlags := 24, nameIndex := 85, descriptorIndex := 86, attributes := #[] }, { accessFlags := 18, nameIndex := 207, descriptorIndex := 194, attributes := #[] }, { accessFlags := 25, nameIndex := 316, descriptorIndex := 194, attributes := #[] }, { accessFlags := 25, nameIndex := 318, descriptorIndex := 194, attributes := #[] }, { accessFlags := 26, nameIndex := 320, descriptorIndex := 321, attributes := #[] }])
  fields := #[{ name := "MIN_VALUE", type := .int, accessFlags := 25, slot := 0, constantValue := 0 }, { name := "MAX_VALUE", type := .int, accessFlags := 25, slot := 1, constantValue := 0 }, { name := "TYPE", type := (.object "java/lang/Class"), accessFlags := 25, slot := 2, constantValue := 0 }, { name := "digits", type := (.array .char), accessFlags := 24, slot := 3, constantValue := 0 }, { name := "DigitTens", type := (.array .byte), accessFlags := 24, slot := 4, constantValue := 0 }, { name := "DigitOnes", type := (.array .byte), accessFlags := 24, slot := 5, constantValue := 0 }, { name := "value", type := .int, accessFlags := 18, slot := 0, constantValue := 0 }, { name := "SIZE", type := .int, accessFlags := 25, slot := 6, constantValue := 0 }, { name := "BYTES", type := .int, accessFlags := 25, slot := 7, constantValue := 0 }, { name := "serialVersionUID", type := .long, accessFlags := 26, slot := 8, constantValue := 0 }]
  methods := #[k9m0, k9m1]
  instanceTypes := #[.int]
  staticTypes := #[.int, .int, (.object "java/lang/Class"), (.array .char), (.array .byte), (.array .byte), .int, .int, .long]
  resolved := Array.replicate 453 none
  statics := none }

def pool10 : Array CpInfo := pool [(2, .class_ 4), (1, u "java/lang/Object"), (0, u "<init>"), (0, u "()V"), (0, .class_ 8), (0, u "java/lang/Integer"), (7, .class_ 18), (1, u "java/lang/Integer$IntegerCache"), (0, u "$assertionsDisabled"), (0, u "Z"), (26, u "high"), (0, u "I"), (8, u "archivedCache"), (0, u "[Ljava/lang/Integer;"), (12, u "cache"), (0, u "low")] 27

def k10m0 : Method := { name := "<init>", desc := "()V", sig := { parameters := [], returnType := none }, accessFlags := 2, code := none }
/-- java/lang/Integer$IntegerCache -/
def k10 : Class := { plain "java/lang/Integer$IntegerCache" (some 0) with
  accessFlags := 48
  interfaces := #[]
  cf := some (fileOf pool10 16 #[.nestHost 7] #[{ accessFlags := 2, nameIndex := 5, descriptorIndex := 6, attributes := #[] }] 48 2 #[] #[{ accessFlags := 24, nameIndex := 72, descriptorIndex := 48, attributes := #[] }, { accessFlags := 24, nameIndex := 47, descriptorIndex := 48, attributes := #[] }, { accessFlags := 24, nameIndex := 71, descriptorIndex := 58, attributes := #[] }, { accessFlags := 8, nameIndex := 57, descriptorIndex := 58, attributes := #[] }, { accessFlags := 4120, nameIndex := 19, descriptorIndex := 20, attributes := #[] }])
  fields := #[{ name := "low", type := .int, accessFlags := 24, slot := 0, constantValue := 0 }, { name := "high", type := .int, accessFlags := 24, slot := 1, constantValue := 0 }, { name := "cache", type := (.array (.object "java/lang/Integer")), accessFlags := 24, slot := 2, constantValue := 0 }, { name := "archivedCache", type := (.array (.object "java/lang/Integer")), accessFlags := 8, slot := 3, constantValue := 0 }, { name := "$assertionsDisabled", type := .boolean, accessFlags := 4120, slot := 4, constantValue := 0 }]
  methods := #[k10m0]
  instanceTypes := #[]
  staticTypes := #[.int, .int, (.array (.object "java/lang/Integer")), (.array (.object "java/lang/Integer")), .boolean]
  resolved := Array.replicate 100 none
  statics := some 0 }

def pool11 : Array CpInfo := pool [(1, u "java/lang/Cloneable"), (0, .class_ 1), (0, u "java/lang/Object"), (0, .class_ 3)] 3

/-- java/lang/Cloneable -/
def k11 : Class := { plain "java/lang/Cloneable" (some 0) with
  accessFlags := 1537
  interfaces := #[]
  cf := some (fileOf pool11 2 #[] #[] 1537 4 #[] #[])
  fields := #[]
  methods := #[]
  instanceTypes := #[]
  staticTypes := #[]
  resolved := Array.replicate 8 none
  statics := none }

/-- the primitive byte -/
def k12 : Class := { plain "byte" none with kind := .primitive 'B', accessFlags := 0x411 }
/-- [B -/
def k13 : Class := { plain "[B" (some 0) with kind := .array 12 .byte, interfaces := #[11, 5], accessFlags := 1041 }

/-- the primitive int -/
def k14 : Class := { plain "int" none with kind := .primitive 'I', accessFlags := 0x411 }
/-- [I -/
def k15 : Class := { plain "[I" (some 0) with kind := .array 14 .int, interfaces := #[11, 5], accessFlags := 1041 }

/-- [Ljava/lang/Integer; -/
def k16 : Class := { plain "[Ljava/lang/Integer;" (some 0) with kind := .array 9 (.object "java/lang/Integer"), interfaces := #[11, 5], accessFlags := 1041 }

def heap : Heap := #[{ cls := 10, slots := #[.int 0, .int 127, .ref 1, .null, .int 0], vm := .statics 10 },
  { cls := 16, slots := #[.ref 2, .ref 3, .ref 4, .ref 5, .ref 6, .ref 7, .ref 8, .ref 9, .ref 10, .ref 11, .ref 12, .ref 13, .ref 14, .ref 15, .ref 16, .ref 17, .ref 18, .ref 19, .ref 20, .ref 21, .ref 22, .ref 23, .ref 24, .ref 25, .ref 26, .ref 27, .ref 28, .ref 29, .ref 30, .ref 31, .ref 32, .ref 33, .ref 34, .ref 35, .ref 36, .ref 37, .ref 38, .ref 39, .ref 40, .ref 41, .ref 42, .ref 43, .ref 44, .ref 45, .ref 46, .ref 47, .ref 48, .ref 49, .ref 50, .ref 51, .ref 52, .ref 53, .ref 54, .ref 55, .ref 56, .ref 57, .ref 58, .ref 59, .ref 60, .ref 61, .ref 62, .ref 63, .ref 64, .ref 65, .ref 66, .ref 67, .ref 68, .ref 69, .ref 70, .ref 71, .ref 72, .ref 73, .ref 74, .ref 75, .ref 76, .ref 77, .ref 78, .ref 79, .ref 80, .ref 81, .ref 82, .ref 83, .ref 84, .ref 85, .ref 86, .ref 87, .ref 88, .ref 89, .ref 90, .ref 91, .ref 92, .ref 93, .ref 94, .ref 95, .ref 96, .ref 97, .ref 98, .ref 99, .ref 100, .ref 101, .ref 102, .ref 103, .ref 104, .ref 105, .ref 106, .ref 107, .ref 108, .ref 109, .ref 110, .ref 111, .ref 112, .ref 113, .ref 114, .ref 115, .ref 116, .ref 117, .ref 118, .ref 119, .ref 120, .ref 121, .ref 122, .ref 123, .ref 124, .ref 125, .ref 126, .ref 127, .ref 128, .ref 129, .ref 130, .ref 131, .ref 132, .ref 133, .ref 134, .ref 135, .ref 136, .ref 137, .ref 138, .ref 139, .ref 140, .ref 141, .ref 142, .ref 143, .ref 144, .ref 145, .ref 146, .ref 147, .ref 148, .ref 149, .ref 150, .ref 151, .ref 152, .ref 153, .ref 154, .ref 155, .ref 156, .ref 157, .ref 158, .ref 159, .ref 160, .ref 161, .ref 162, .ref 163, .ref 164, .ref 165, .ref 166, .ref 167, .ref 168, .ref 169, .ref 170, .ref 171, .ref 172, .ref 173, .ref 174, .ref 175, .ref 176, .ref 177, .ref 178, .ref 179, .ref 180, .ref 181, .ref 182, .ref 183, .ref 184, .ref 185, .ref 186, .ref 187, .ref 188, .ref 189, .ref 190, .ref 191, .ref 192, .ref 193, .ref 194, .ref 195, .ref 196, .ref 197, .ref 198, .ref 199, .ref 200, .ref 201, .ref 202, .ref 203, .ref 204, .ref 205, .ref 206, .ref 207, .ref 208, .ref 209, .ref 210, .ref 211, .ref 212, .ref 213, .ref 214, .ref 215, .ref 216, .ref 217, .ref 218, .ref 219, .ref 220, .ref 221, .ref 222, .ref 223, .ref 224, .ref 225, .ref 226, .ref 227, .ref 228, .ref 229, .ref 230, .ref 231, .ref 232, .ref 233, .ref 234, .ref 235, .ref 236, .ref 237, .ref 238, .ref 239, .ref 240, .ref 241, .ref 242, .ref 243, .ref 244, .ref 245, .ref 246, .ref 247, .ref 248, .ref 249, .ref 250, .ref 251, .ref 252, .ref 253, .ref 254, .ref 255, .ref 256, .ref 257], vm := .none },
  { cls := 9, slots := #[.int (-128)], vm := .none },
  { cls := 9, slots := #[.int (-127)], vm := .none },
  { cls := 9, slots := #[.int (-126)], vm := .none },
  { cls := 9, slots := #[.int (-125)], vm := .none },
  { cls := 9, slots := #[.int (-124)], vm := .none },
  { cls := 9, slots := #[.int (-123)], vm := .none },
  { cls := 9, slots := #[.int (-122)], vm := .none },
  { cls := 9, slots := #[.int (-121)], vm := .none },
  { cls := 9, slots := #[.int (-120)], vm := .none },
  { cls := 9, slots := #[.int (-119)], vm := .none },
  { cls := 9, slots := #[.int (-118)], vm := .none },
  { cls := 9, slots := #[.int (-117)], vm := .none },
  { cls := 9, slots := #[.int (-116)], vm := .none },
  { cls := 9, slots := #[.int (-115)], vm := .none },
  { cls := 9, slots := #[.int (-114)], vm := .none },
  { cls := 9, slots := #[.int (-113)], vm := .none },
  { cls := 9, slots := #[.int (-112)], vm := .none },
  { cls := 9, slots := #[.int (-111)], vm := .none },
  { cls := 9, slots := #[.int (-110)], vm := .none },
  { cls := 9, slots := #[.int (-109)], vm := .none },
  { cls := 9, slots := #[.int (-108)], vm := .none },
  { cls := 9, slots := #[.int (-107)], vm := .none },
  { cls := 9, slots := #[.int (-106)], vm := .none },
  { cls := 9, slots := #[.int (-105)], vm := .none },
  { cls := 9, slots := #[.int (-104)], vm := .none },
  { cls := 9, slots := #[.int (-103)], vm := .none },
  { cls := 9, slots := #[.int (-102)], vm := .none },
  { cls := 9, slots := #[.int (-101)], vm := .none },
  { cls := 9, slots := #[.int (-100)], vm := .none },
  { cls := 9, slots := #[.int (-99)], vm := .none },
  { cls := 9, slots := #[.int (-98)], vm := .none },
  { cls := 9, slots := #[.int (-97)], vm := .none },
  { cls := 9, slots := #[.int (-96)], vm := .none },
  { cls := 9, slots := #[.int (-95)], vm := .none },
  { cls := 9, slots := #[.int (-94)], vm := .none },
  { cls := 9, slots := #[.int (-93)], vm := .none },
  { cls := 9, slots := #[.int (-92)], vm := .none },
  { cls := 9, slots := #[.int (-91)], vm := .none },
  { cls := 9, slots := #[.int (-90)], vm := .none },
  { cls := 9, slots := #[.int (-89)], vm := .none },
  { cls := 9, slots := #[.int (-88)], vm := .none },
  { cls := 9, slots := #[.int (-87)], vm := .none },
  { cls := 9, slots := #[.int (-86)], vm := .none },
  { cls := 9, slots := #[.int (-85)], vm := .none },
  { cls := 9, slots := #[.int (-84)], vm := .none },
  { cls := 9, slots := #[.int (-83)], vm := .none },
  { cls := 9, slots := #[.int (-82)], vm := .none },
  { cls := 9, slots := #[.int (-81)], vm := .none },
  { cls := 9, slots := #[.int (-80)], vm := .none },
  { cls := 9, slots := #[.int (-79)], vm := .none },
  { cls := 9, slots := #[.int (-78)], vm := .none },
  { cls := 9, slots := #[.int (-77)], vm := .none },
  { cls := 9, slots := #[.int (-76)], vm := .none },
  { cls := 9, slots := #[.int (-75)], vm := .none },
  { cls := 9, slots := #[.int (-74)], vm := .none },
  { cls := 9, slots := #[.int (-73)], vm := .none },
  { cls := 9, slots := #[.int (-72)], vm := .none },
  { cls := 9, slots := #[.int (-71)], vm := .none },
  { cls := 9, slots := #[.int (-70)], vm := .none },
  { cls := 9, slots := #[.int (-69)], vm := .none },
  { cls := 9, slots := #[.int (-68)], vm := .none },
  { cls := 9, slots := #[.int (-67)], vm := .none },
  { cls := 9, slots := #[.int (-66)], vm := .none },
  { cls := 9, slots := #[.int (-65)], vm := .none },
  { cls := 9, slots := #[.int (-64)], vm := .none },
  { cls := 9, slots := #[.int (-63)], vm := .none },
  { cls := 9, slots := #[.int (-62)], vm := .none },
  { cls := 9, slots := #[.int (-61)], vm := .none },
  { cls := 9, slots := #[.int (-60)], vm := .none },
  { cls := 9, slots := #[.int (-59)], vm := .none },
  { cls := 9, slots := #[.int (-58)], vm := .none },
  { cls := 9, slots := #[.int (-57)], vm := .none },
  { cls := 9, slots := #[.int (-56)], vm := .none },
  { cls := 9, slots := #[.int (-55)], vm := .none },
  { cls := 9, slots := #[.int (-54)], vm := .none },
  { cls := 9, slots := #[.int (-53)], vm := .none },
  { cls := 9, slots := #[.int (-52)], vm := .none },
  { cls := 9, slots := #[.int (-51)], vm := .none },
  { cls := 9, slots := #[.int (-50)], vm := .none },
  { cls := 9, slots := #[.int (-49)], vm := .none },
  { cls := 9, slots := #[.int (-48)], vm := .none },
  { cls := 9, slots := #[.int (-47)], vm := .none },
  { cls := 9, slots := #[.int (-46)], vm := .none },
  { cls := 9, slots := #[.int (-45)], vm := .none },
  { cls := 9, slots := #[.int (-44)], vm := .none },
  { cls := 9, slots := #[.int (-43)], vm := .none },
  { cls := 9, slots := #[.int (-42)], vm := .none },
  { cls := 9, slots := #[.int (-41)], vm := .none },
  { cls := 9, slots := #[.int (-40)], vm := .none },
  { cls := 9, slots := #[.int (-39)], vm := .none },
  { cls := 9, slots := #[.int (-38)], vm := .none },
  { cls := 9, slots := #[.int (-37)], vm := .none },
  { cls := 9, slots := #[.int (-36)], vm := .none },
  { cls := 9, slots := #[.int (-35)], vm := .none },
  { cls := 9, slots := #[.int (-34)], vm := .none },
  { cls := 9, slots := #[.int (-33)], vm := .none },
  { cls := 9, slots := #[.int (-32)], vm := .none },
  { cls := 9, slots := #[.int (-31)], vm := .none },
  { cls := 9, slots := #[.int (-30)], vm := .none },
  { cls := 9, slots := #[.int (-29)], vm := .none },
  { cls := 9, slots := #[.int (-28)], vm := .none },
  { cls := 9, slots := #[.int (-27)], vm := .none },
  { cls := 9, slots := #[.int (-26)], vm := .none },
  { cls := 9, slots := #[.int (-25)], vm := .none },
  { cls := 9, slots := #[.int (-24)], vm := .none },
  { cls := 9, slots := #[.int (-23)], vm := .none },
  { cls := 9, slots := #[.int (-22)], vm := .none },
  { cls := 9, slots := #[.int (-21)], vm := .none },
  { cls := 9, slots := #[.int (-20)], vm := .none },
  { cls := 9, slots := #[.int (-19)], vm := .none },
  { cls := 9, slots := #[.int (-18)], vm := .none },
  { cls := 9, slots := #[.int (-17)], vm := .none },
  { cls := 9, slots := #[.int (-16)], vm := .none },
  { cls := 9, slots := #[.int (-15)], vm := .none },
  { cls := 9, slots := #[.int (-14)], vm := .none },
  { cls := 9, slots := #[.int (-13)], vm := .none },
  { cls := 9, slots := #[.int (-12)], vm := .none },
  { cls := 9, slots := #[.int (-11)], vm := .none },
  { cls := 9, slots := #[.int (-10)], vm := .none },
  { cls := 9, slots := #[.int (-9)], vm := .none },
  { cls := 9, slots := #[.int (-8)], vm := .none },
  { cls := 9, slots := #[.int (-7)], vm := .none },
  { cls := 9, slots := #[.int (-6)], vm := .none },
  { cls := 9, slots := #[.int (-5)], vm := .none },
  { cls := 9, slots := #[.int (-4)], vm := .none },
  { cls := 9, slots := #[.int (-3)], vm := .none },
  { cls := 9, slots := #[.int (-2)], vm := .none },
  { cls := 9, slots := #[.int (-1)], vm := .none },
  { cls := 9, slots := #[.int (0)], vm := .none },
  { cls := 9, slots := #[.int (1)], vm := .none },
  { cls := 9, slots := #[.int (2)], vm := .none },
  { cls := 9, slots := #[.int (3)], vm := .none },
  { cls := 9, slots := #[.int (4)], vm := .none },
  { cls := 9, slots := #[.int (5)], vm := .none },
  { cls := 9, slots := #[.int (6)], vm := .none },
  { cls := 9, slots := #[.int (7)], vm := .none },
  { cls := 9, slots := #[.int (8)], vm := .none },
  { cls := 9, slots := #[.int (9)], vm := .none },
  { cls := 9, slots := #[.int (10)], vm := .none },
  { cls := 9, slots := #[.int (11)], vm := .none },
  { cls := 9, slots := #[.int (12)], vm := .none },
  { cls := 9, slots := #[.int (13)], vm := .none },
  { cls := 9, slots := #[.int (14)], vm := .none },
  { cls := 9, slots := #[.int (15)], vm := .none },
  { cls := 9, slots := #[.int (16)], vm := .none },
  { cls := 9, slots := #[.int (17)], vm := .none },
  { cls := 9, slots := #[.int (18)], vm := .none },
  { cls := 9, slots := #[.int (19)], vm := .none },
  { cls := 9, slots := #[.int (20)], vm := .none },
  { cls := 9, slots := #[.int (21)], vm := .none },
  { cls := 9, slots := #[.int (22)], vm := .none },
  { cls := 9, slots := #[.int (23)], vm := .none },
  { cls := 9, slots := #[.int (24)], vm := .none },
  { cls := 9, slots := #[.int (25)], vm := .none },
  { cls := 9, slots := #[.int (26)], vm := .none },
  { cls := 9, slots := #[.int (27)], vm := .none },
  { cls := 9, slots := #[.int (28)], vm := .none },
  { cls := 9, slots := #[.int (29)], vm := .none },
  { cls := 9, slots := #[.int (30)], vm := .none },
  { cls := 9, slots := #[.int (31)], vm := .none },
  { cls := 9, slots := #[.int (32)], vm := .none },
  { cls := 9, slots := #[.int (33)], vm := .none },
  { cls := 9, slots := #[.int (34)], vm := .none },
  { cls := 9, slots := #[.int (35)], vm := .none },
  { cls := 9, slots := #[.int (36)], vm := .none },
  { cls := 9, slots := #[.int (37)], vm := .none },
  { cls := 9, slots := #[.int (38)], vm := .none },
  { cls := 9, slots := #[.int (39)], vm := .none },
  { cls := 9, slots := #[.int (40)], vm := .none },
  { cls := 9, slots := #[.int (41)], vm := .none },
  { cls := 9, slots := #[.int (42)], vm := .none },
  { cls := 9, slots := #[.int (43)], vm := .none },
  { cls := 9, slots := #[.int (44)], vm := .none },
  { cls := 9, slots := #[.int (45)], vm := .none },
  { cls := 9, slots := #[.int (46)], vm := .none },
  { cls := 9, slots := #[.int (47)], vm := .none },
  { cls := 9, slots := #[.int (48)], vm := .none },
  { cls := 9, slots := #[.int (49)], vm := .none },
  { cls := 9, slots := #[.int (50)], vm := .none },
  { cls := 9, slots := #[.int (51)], vm := .none },
  { cls := 9, slots := #[.int (52)], vm := .none },
  { cls := 9, slots := #[.int (53)], vm := .none },
  { cls := 9, slots := #[.int (54)], vm := .none },
  { cls := 9, slots := #[.int (55)], vm := .none },
  { cls := 9, slots := #[.int (56)], vm := .none },
  { cls := 9, slots := #[.int (57)], vm := .none },
  { cls := 9, slots := #[.int (58)], vm := .none },
  { cls := 9, slots := #[.int (59)], vm := .none },
  { cls := 9, slots := #[.int (60)], vm := .none },
  { cls := 9, slots := #[.int (61)], vm := .none },
  { cls := 9, slots := #[.int (62)], vm := .none },
  { cls := 9, slots := #[.int (63)], vm := .none },
  { cls := 9, slots := #[.int (64)], vm := .none },
  { cls := 9, slots := #[.int (65)], vm := .none },
  { cls := 9, slots := #[.int (66)], vm := .none },
  { cls := 9, slots := #[.int (67)], vm := .none },
  { cls := 9, slots := #[.int (68)], vm := .none },
  { cls := 9, slots := #[.int (69)], vm := .none },
  { cls := 9, slots := #[.int (70)], vm := .none },
  { cls := 9, slots := #[.int (71)], vm := .none },
  { cls := 9, slots := #[.int (72)], vm := .none },
  { cls := 9, slots := #[.int (73)], vm := .none },
  { cls := 9, slots := #[.int (74)], vm := .none },
  { cls := 9, slots := #[.int (75)], vm := .none },
  { cls := 9, slots := #[.int (76)], vm := .none },
  { cls := 9, slots := #[.int (77)], vm := .none },
  { cls := 9, slots := #[.int (78)], vm := .none },
  { cls := 9, slots := #[.int (79)], vm := .none },
  { cls := 9, slots := #[.int (80)], vm := .none },
  { cls := 9, slots := #[.int (81)], vm := .none },
  { cls := 9, slots := #[.int (82)], vm := .none },
  { cls := 9, slots := #[.int (83)], vm := .none },
  { cls := 9, slots := #[.int (84)], vm := .none },
  { cls := 9, slots := #[.int (85)], vm := .none },
  { cls := 9, slots := #[.int (86)], vm := .none },
  { cls := 9, slots := #[.int (87)], vm := .none },
  { cls := 9, slots := #[.int (88)], vm := .none },
  { cls := 9, slots := #[.int (89)], vm := .none },
  { cls := 9, slots := #[.int (90)], vm := .none },
  { cls := 9, slots := #[.int (91)], vm := .none },
  { cls := 9, slots := #[.int (92)], vm := .none },
  { cls := 9, slots := #[.int (93)], vm := .none },
  { cls := 9, slots := #[.int (94)], vm := .none },
  { cls := 9, slots := #[.int (95)], vm := .none },
  { cls := 9, slots := #[.int (96)], vm := .none },
  { cls := 9, slots := #[.int (97)], vm := .none },
  { cls := 9, slots := #[.int (98)], vm := .none },
  { cls := 9, slots := #[.int (99)], vm := .none },
  { cls := 9, slots := #[.int (100)], vm := .none },
  { cls := 9, slots := #[.int (101)], vm := .none },
  { cls := 9, slots := #[.int (102)], vm := .none },
  { cls := 9, slots := #[.int (103)], vm := .none },
  { cls := 9, slots := #[.int (104)], vm := .none },
  { cls := 9, slots := #[.int (105)], vm := .none },
  { cls := 9, slots := #[.int (106)], vm := .none },
  { cls := 9, slots := #[.int (107)], vm := .none },
  { cls := 9, slots := #[.int (108)], vm := .none },
  { cls := 9, slots := #[.int (109)], vm := .none },
  { cls := 9, slots := #[.int (110)], vm := .none },
  { cls := 9, slots := #[.int (111)], vm := .none },
  { cls := 9, slots := #[.int (112)], vm := .none },
  { cls := 9, slots := #[.int (113)], vm := .none },
  { cls := 9, slots := #[.int (114)], vm := .none },
  { cls := 9, slots := #[.int (115)], vm := .none },
  { cls := 9, slots := #[.int (116)], vm := .none },
  { cls := 9, slots := #[.int (117)], vm := .none },
  { cls := 9, slots := #[.int (118)], vm := .none },
  { cls := 9, slots := #[.int (119)], vm := .none },
  { cls := 9, slots := #[.int (120)], vm := .none },
  { cls := 9, slots := #[.int (121)], vm := .none },
  { cls := 9, slots := #[.int (122)], vm := .none },
  { cls := 9, slots := #[.int (123)], vm := .none },
  { cls := 9, slots := #[.int (124)], vm := .none },
  { cls := 9, slots := #[.int (125)], vm := .none },
  { cls := 9, slots := #[.int (126)], vm := .none },
  { cls := 9, slots := #[.int (127)], vm := .none }]
def classes : Array Class := #[k0, k1, k2, k3, k4, k5, k6, k7, k8, k9, k10, k11, k12, k13, k14, k15, k16]
def interned : List (Array UInt16 × Addr) := []
def slotsUsed : Nat := 517
def theMethod : MethodId := ⟨1, 1⟩
def args0 : Array Value := #[.int 5, .int 7, .int 9, .int 2, .int 1]
def aboutOver (below : List Frame) : State where
  vm := { classes := classes, interned := interned.toArray }
  heap := heap
  slotsUsed := slotsUsed
  threads := #[{ frames := .invoking theMethod args0 :: below }]
def below0 : List Frame := [.native { method := ⟨0, 0⟩, args := #[] }]
def about1 : State := aboutOver below0
def p0 : Program := .bare "" "" ""
def e0 : Env := launch0.env 0 0 0
theorem w_frames : about1.frames = Frame.invoking theMethod args0 :: below0 := rfl
set_option maxRecDepth 65536 in
theorem w_args : argsFit about1.vm theMethod args0 = true := by decide +kernel
set_option maxRecDepth 65536 in
theorem w_heap : heapFits about1 = true := by decide +kernel
set_option maxRecDepth 65536 in
theorem w_runnable : about1.curStatus? = some .runnable := by decide +kernel
set_option maxRecDepth 65536 in
theorem w_alone : about1.alone = true := by decide +kernel
set_option maxRecDepth 65536 in
theorem w_named : about1.methodNamed? x = some theMethod := by decide +kernel
set_option maxRecDepth 65536 in
theorem w_hears : about1.hears theMethod below0 = true := by decide +kernel
set_option maxRecDepth 65536 in
theorem w_ripe : about1.ripe theMethod args0 below0 = true := by decide +kernel
theorem w_running : about1.status = .running := rfl
set_option maxRecDepth 65536 in
theorem w_room : about1.hasRoom e0.platform room_1 = true :=
  launch0.hasRoom_least _ room_1 (by decide +kernel) (by decide +kernel) (by decide +kernel) (by decide +kernel) (by decide +kernel) (by decide +kernel)
theorem allAtoms_all (ts : List Jvm.Cond) (a : Array Jvm.Value) (st : Jvm.State) : (allAtoms ts).before a st = ts.all (fun c => c.before a st) := by
  induction ts with
  | nil => rfl
  | cons c t ih =>
    show (Jvm.Cond.and c (allAtoms t)).before a st = _
    rw [Jvm.Cond.before_and, ih, List.all_cons]
def words1 : List Jvm.Cond := Jvm.Cond.code x code maxLocals ret :: tables_1
/-- a 'code' word, met by the world's own term for the bytes: nothing is compared byte by byte -/
theorem code_word {y : MethodName} {bytes : ByteArray} {mx : Nat} {rt : Option FieldType} {a : Array Value} {s : State} {m : MethodId} {meth : Method} {c : Code} (h1 : s.methodNamed? y = some m) (h2 : s.vm.method? m = some meth) (h3 : meth.code = some c) (h4 : c.code = bytes)
    (h5 : (c.maxLocals == mx && c.exceptionTable.isEmpty && decide (c.maxStack ≤ mostOperands) && decide (meth.sig.returnType = rt) && !meth.locks && decide (parseMethodDescriptor y.desc = some meth.sig)) = true) : (Jvm.Cond.code y bytes mx rt).before a s = true := by
  simp only [Bool.and_eq_true, beq_iff_eq, Bool.not_eq_true', decide_eq_true_eq] at h5
  obtain ⟨⟨⟨⟨⟨g1, g2⟩, g3⟩, g4⟩, g5⟩, g6⟩ := h5
  simp [Cond.before, Cond.holds, Cond.value, h1, h2, h3, h4, g1, g2, g3, g4, g5, g6]
def isCode : Jvm.Cond → Bool
  | .code _ _ _ _ => true
  | _ => false
theorem all_split {L : List Jvm.Cond} {P : Jvm.Cond → Bool} (h1 : L.all (fun c => isCode c || P c) = true) (h2 : ∀ c ∈ L.filter isCode, P c = true) : L.all P = true := by
  refine List.all_eq_true.mpr fun c hc => ?_
  have h := List.all_eq_true.mp h1 c hc
  rcases Bool.eq_false_or_eq_true (isCode c) with hi | hi
  · exact h2 c (List.mem_filter.mpr ⟨hc, hi⟩)
  · simpa [hi] using h
set_option maxRecDepth 65536 in
theorem w_c0 : (Jvm.Cond.code x code maxLocals ret).before args0 about1 = true := code_word (m := ⟨1, 1⟩) (meth := k1m1) (c := k1c1) (by decide +kernel) rfl rfl rfl (by decide +kernel)
set_option maxRecDepth 65536 in
theorem w_c1 : (Jvm.Cond.code ({ cls := "java/lang/Math", name := "max", desc := "(II)I" } : Jvm.MethodName) jdk_29_method_65_code (2 : Nat) (Option.some Jvm.ClassFile.FieldType.int)).before args0 about1 = true := code_word (m := ⟨2, 1⟩) (meth := k2m1) (c := k2c1) (by decide +kernel) rfl rfl rfl (by decide +kernel)
set_option maxRecDepth 65536 in
theorem w_c2 : (Jvm.Cond.code ({ cls := "com/example/neat_contract/neatcontract/document/Position", name := "<init>", desc := "(II)V" } : Jvm.MethodName) prog_47_method_1_code (3 : Nat) (Option.none : Option Jvm.ClassFile.FieldType)).before args0 about1 = true := code_word (m := ⟨4, 0⟩) (meth := k4m0) (c := k4c0) (by decide +kernel) rfl rfl rfl (by decide +kernel)
set_option maxRecDepth 65536 in
theorem w_c3 : (Jvm.Cond.code ({ cls := "java/lang/Object", name := "<init>", desc := "()V" } : Jvm.MethodName) object_method_1_code (1 : Nat) (Option.none : Option Jvm.ClassFile.FieldType)).before args0 about1 = true := code_word (m := ⟨0, 0⟩) (meth := k0m0) (c := k0c0) (by decide +kernel) rfl rfl rfl (by decide +kernel)
set_option maxRecDepth 65536 in
theorem w_c4 : (Jvm.Cond.code ({ cls := "com/example/neat_contract/neatcontract/document/Position", name := "equals", desc := "(Ljava/lang/Object;)Z" } : Jvm.MethodName) prog_47_method_13_code (3 : Nat) (Option.some Jvm.ClassFile.FieldType.boolean)).before args0 about1 = true := code_word (m := ⟨4, 1⟩) (meth := k4m1) (c := k4c1) (by decide +kernel) rfl rfl rfl (by decide +kernel)
set_option maxRecDepth 65536 in
theorem w_c5 : (Jvm.Cond.code ({ cls := "java/lang/Integer", name := "valueOf", desc := "(I)Ljava/lang/Integer;" } : Jvm.MethodName) jdk_33_method_22_code (1 : Nat) (Option.some (Jvm.ClassFile.FieldType.object "java/lang/Integer"))).before args0 about1 = true := code_word (m := ⟨9, 0⟩) (meth := k9m0) (c := k9c0) (by decide +kernel) rfl rfl rfl (by decide +kernel)
set_option maxRecDepth 65536 in
theorem w_c6 : (Jvm.Cond.code ({ cls := "java/lang/Integer", name := "<init>", desc := "(I)V" } : Jvm.MethodName) jdk_33_method_23_code (2 : Nat) (Option.none : Option Jvm.ClassFile.FieldType)).before args0 about1 = true := code_word (m := ⟨9, 1⟩) (meth := k9m1) (c := k9c1) (by decide +kernel) rfl rfl rfl (by decide +kernel)
set_option maxRecDepth 65536 in
theorem w_c7 : (Jvm.Cond.code ({ cls := "java/lang/Number", name := "<init>", desc := "()V" } : Jvm.MethodName) jdk_18_method_1_code (1 : Nat) (Option.none : Option Jvm.ClassFile.FieldType)).before args0 about1 = true := code_word (m := ⟨6, 0⟩) (meth := k6m0) (c := k6c0) (by decide +kernel) rfl rfl rfl (by decide +kernel)
def codes1 : List Jvm.Cond := [Jvm.Cond.code x code maxLocals ret, Jvm.Cond.code ({ cls := "java/lang/Math", name := "max", desc := "(II)I" } : Jvm.MethodName) jdk_29_method_65_code (2 : Nat) (Option.some Jvm.ClassFile.FieldType.int), Jvm.Cond.code ({ cls := "com/example/neat_contract/neatcontract/document/Position", name := "<init>", desc := "(II)V" } : Jvm.MethodName) prog_47_method_1_code (3 : Nat) (Option.none : Option Jvm.ClassFile.FieldType), Jvm.Cond.code ({ cls := "java/lang/Object", name := "<init>", desc := "()V" } : Jvm.MethodName) object_method_1_code (1 : Nat) (Option.none : Option Jvm.ClassFile.FieldType), Jvm.Cond.code ({ cls := "com/example/neat_contract/neatcontract/document/Position", name := "equals", desc := "(Ljava/lang/Object;)Z" } : Jvm.MethodName) prog_47_method_13_code (3 : Nat) (Option.some Jvm.ClassFile.FieldType.boolean), Jvm.Cond.code ({ cls := "java/lang/Integer", name := "valueOf", desc := "(I)Ljava/lang/Integer;" } : Jvm.MethodName) jdk_33_method_22_code (1 : Nat) (Option.some (Jvm.ClassFile.FieldType.object "java/lang/Integer")), Jvm.Cond.code ({ cls := "java/lang/Integer", name := "<init>", desc := "(I)V" } : Jvm.MethodName) jdk_33_method_23_code (2 : Nat) (Option.none : Option Jvm.ClassFile.FieldType), Jvm.Cond.code ({ cls := "java/lang/Number", name := "<init>", desc := "()V" } : Jvm.MethodName) jdk_18_method_1_code (1 : Nat) (Option.none : Option Jvm.ClassFile.FieldType)]
set_option maxRecDepth 65536 in
theorem codes_eq : words1.filter isCode = codes1 := rfl
theorem w_codes : ∀ c ∈ words1.filter isCode, c.before args0 about1 = true := by
  rw [codes_eq]
  intro c hc
  simp only [codes1, List.mem_cons, List.not_mem_nil, or_false] at hc
  rcases hc with rfl | rfl | rfl | rfl | rfl | rfl | rfl | rfl
  · exact w_c0
  · exact w_c1
  · exact w_c2
  · exact w_c3
  · exact w_c4
  · exact w_c5
  · exact w_c6
  · exact w_c7
set_option maxRecDepth 65536 in
theorem w_t1 : (words1.take 24).all (fun c => isCode c || c.before args0 about1) = true := by decide +kernel
set_option maxRecDepth 65536 in
theorem w_t2 : ((words1.drop 24).take 24).all (fun c => isCode c || c.before args0 about1) = true := by decide +kernel
set_option maxRecDepth 65536 in
theorem w_t3 : ((words1.drop 24).drop 24).all (fun c => isCode c || c.before args0 about1) = true := by decide +kernel
theorem w_tables : (allAtoms (Jvm.Cond.code x code maxLocals ret :: tables_1)).before args0 about1 = true := by
  rw [allAtoms_all]
  show words1.all (fun c => c.before args0 about1) = true
  refine all_split ?_ w_codes
  rw [← List.take_append_drop 24 words1, List.all_append, w_t1, ← List.take_append_drop 24 (words1.drop 24), List.all_append, w_t2, w_t3]
  rfl
set_option maxRecDepth 65536 in
theorem w_rest : rest_1_c.before args0 about1 = true := by decide +kernel
set_option maxRecDepth 65536 in
theorem w_case : (Jvm.Cond.and given_1 narrow_1).before args0 about1 = true := by decide +kernel
theorem w_applies : (headSpec (Jvm.Cond.code x code maxLocals ret :: tables_1) room_1).applies x e0.platform about1 = true :=
  (Spec.applies_iff w_frames).mpr ⟨w_running, w_runnable, w_alone, w_named, w_hears, w_ripe, w_room, w_tables⟩
theorem atStart : AtStart classFile x code maxLocals ret World_1 tables_1 room_1 Calls_1 rest_1 Pre_1 launch0 p0 e0 about1 theMethod args0 below0 :=
  ⟨lists_1, trivial, launch0.admits_env _ _ _, launch0.least_env, fairChoices_fair.cas, fairChoices_fair.clock, w_frames, w_args, w_heap, w_applies, trivial, w_rest, w_case⟩
end start1
theorem witness_1 : WitnessClaimed_1 := ⟨start1.p0, start1.e0, start1.about1, start1.theMethod, start1.args0, start1.below0, start1.atStart⟩
end Jvm.Pilot.@@N@@
