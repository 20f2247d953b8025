import JvmDerived
import JvmDerived.Pilot.@@N@@Statement
import JvmDerived.Pilot.@@N@@Code
set_option linter.unusedVariables false
set_option linter.unusedSimpArgs false
@@BLOCK:NumsL.lean.txt@@
namespace Jvm.RoadKit
open Sem ClassFile Op Lib Jvm.Stand Jvm.Free Jvm.LawKit
section New
variable {p : Program} {l : Launch} {e : Env} {R : Room} {s : State} {m : MethodId} {args : Array Value} {below : List Frame} {meth : Method} {c : Code} {T : State} {locs : List Loc} {cells slots : Nat}
theorem retI (X : Stand p l e R s m args below meth c T locs cells slots) (hx : p.tables.exec = Jvm.exec) {pc : Nat} {Ls : Array Slot} {z : Int32} {rest : List Value} (hret : meth.sig.returnType = some .int) (hd : decode c.code pc = .ok (.ireturn, 1)) {fs : List Frame}
    (hl : ∀ (f : JFrame) (acts : List Action), f.method = m → f.locked = none → f.entered = [] → (doReturn e (T.setTop f) acts (some (.int z))).1 = T.setFrames fs) : Steps p.tables e below (T.setTop (mkF m pc Ls (.int z :: rest))) (T.setFrames fs) := by
  have hm' : T.vm.method? m = some meth := X.method'
  have hn : narrow .int (.int z) = .int z := rfl
  show Steps p.tables e below (T.setTop { method := m, pc := pc, locals := Ls, stack := _ :: rest, locked := none }) _
  jvm_step X.here [X.here.top, hx, hd, hm', hret, hn]
  first | (intro acts; rw [hl _ acts rfl rfl rfl]) | rw [hl _ _ rfl rfl rfl]
  exact Steps.refl _
end New
end Jvm.RoadKit
namespace Jvm.Pilot.@@N@@
open Jvm Jvm.ClassFile Sem Op Lib Jvm.Free Jvm.Stand Jvm.LawKit Jvm.RoadKit Bundle Jvm.Pilot.@@N@@.Jvm.D
theorem own_nz_J {x : Int64} (h : (0 : Int64) < x) : ¬ (x = (0 : Int64)) := by rintro rfl; exact absurd h (by decide)
theorem own_nz_I {x : Int32} (h : (0 : Int32) < x) : ¬ (x = (0 : Int32)) := by rintro rfl; exact absurd h (by decide)
theorem own_fld {s : State} {args : Array Value} {tt : Term} {a : Addr} {C n d : String} {k : Int32} (ev : tt.eval args s none [] s = some (.ref a)) (h : (Jvm.Cond.eq (.field tt C n d) (.int k)).value args s none s [] = some true) : Fld s s.heap a C n d (.int k) := by
  obtain ⟨u, v, hu, hv, k1, k2⟩ := cmp_v (Or.inl h)
  have hv' : v = .int k := (Option.some.inj (hv.symm.trans (Term.int_eval k)))
  subst hv'
  obtain ⟨z, rfl⟩ := k2
  have hz := gotT (Cond.eq_ints hu hv) h
  subst hz
  exact Fld.start (by rw [← fld_at ev]; exact hu)
def own_at (vs : List Int32) (j : Int32) : Int32 := vs.getD j.toNatClampNeg 0
def own_atL (vs : List Int64) (j : Int32) : Int64 := vs.getD j.toNatClampNeg 0
theorem own_getD (vs : List Int32) (j : Int32) : (vs.map Value.int).getD j.toNatClampNeg (.int (0 : Int32)) = .int (own_at vs j) := by
  unfold own_at
  generalize j.toNatClampNeg = k
  induction vs generalizing k with
  | nil => rfl
  | cons a t ih => cases k with
    | zero => rfl
    | succ k => simpa using ih k
theorem own_getDL (vs : List Int64) (j : Int32) : (vs.map Value.long).getD j.toNatClampNeg (.long (0 : Int64)) = .long (own_atL vs j) := by
  unfold own_atL
  generalize j.toNatClampNeg = k
  induction vs generalizing k with
  | nil => rfl
  | cons a t ih => cases k with
    | zero => rfl
    | succ k => simpa using ih k
theorem own_in3 (x : Int32) : ¬ ((x &&& (3 : Int32)) < (0 : Int32)) ∧ (x &&& (3 : Int32)) < (4 : Int32) := by
  have h := c_mask x 3 2 (by decide) (by decide)
  simp only [Int32.lt_iff_toInt_lt, show (0 : Int32).toInt = 0 from rfl, show (4 : Int32).toInt = 4 from rfl]
  omega
theorem d1_0 : decode prog_97_method_15_code 0 = .ok (.iload_n 0, 1) := by decide +kernel
theorem d1_1 : decode prog_97_method_15_code 1 = .ok (.bipush 32, 2) := by decide +kernel
theorem d1_3 : decode prog_97_method_15_code 3 = .ok (.if_icmp .eq 21, 3) := by decide +kernel
theorem d1_6 : decode prog_97_method_15_code 6 = .ok (.iload_n 0, 1) := by decide +kernel
theorem d1_7 : decode prog_97_method_15_code 7 = .ok (.bipush 9, 2) := by decide +kernel
theorem d1_9 : decode prog_97_method_15_code 9 = .ok (.if_icmp .eq 15, 3) := by decide +kernel
theorem d1_12 : decode prog_97_method_15_code 12 = .ok (.iload_n 0, 1) := by decide +kernel
theorem d1_13 : decode prog_97_method_15_code 13 = .ok (.bipush 13, 2) := by decide +kernel
theorem d1_15 : decode prog_97_method_15_code 15 = .ok (.if_icmp .eq 9, 3) := by decide +kernel
theorem d1_18 : decode prog_97_method_15_code 18 = .ok (.iload_n 0, 1) := by decide +kernel
theorem d1_19 : decode prog_97_method_15_code 19 = .ok (.bipush 10, 2) := by decide +kernel
theorem d1_21 : decode prog_97_method_15_code 21 = .ok (.if_icmp .ne 7, 3) := by decide +kernel
theorem d1_24 : decode prog_97_method_15_code 24 = .ok (.iconst 1, 1) := by decide +kernel
theorem d1_25 : decode prog_97_method_15_code 25 = .ok (.goto 4, 3) := by decide +kernel
theorem d1_28 : decode prog_97_method_15_code 28 = .ok (.iconst 0, 1) := by decide +kernel
theorem d1_29 : decode prog_97_method_15_code 29 = .ok (.ireturn, 1) := by decide +kernel
theorem pn_1 : plainName "com/example/loadstone/loadstone/Xml" = true := by first | (simp [plainName, overriddenIn]; done) | decide +kernel
theorem ef_1 (m : MethodId) (x0 : Int32) : entryFrame m #[(.int x0)] 1 = mkF m 0 #[.val (.int x0)] [] := by first | (simp [entryFrame, mkF, argsToLocals, Value.category]; done) | rfl
def f1 (p1 : Int32) : Int32 := (if p1 = (32 : Int32) then (1 : Int32) else (if p1 = (9 : Int32) then (1 : Int32) else (if p1 = (13 : Int32) then (1 : Int32) else (if p1 = (10 : Int32) then (1 : Int32) else (0 : Int32)))))
def Q1 (Z : State) (p1 : Int32) (h0 : Heap) (n0 : Nat) (v : Option Value) (h : Heap) (L : List Loc) : Prop := v = some (.int (f1 p1)) ∧ Fr n0 L ∧ h = h0
set_option maxRecDepth 65536 in
set_option maxHeartbeats 40000000 in
theorem rm1 (l : Launch) (Z : State) (a0 : Array Value) (hw : ∀ d ∈ tables_1, d.before a0 Z = true) (ws : List Jvm.Cond) (p1 : Int32) (h0 : Heap) (n0 : Nat) (Z0 : n0 ≤ h0.size) :
    MetFree l (⟨"com/example/loadstone/loadstone/Xml", "isSpace", "(C)Z"⟩ : MethodName) (head1 (Jvm.Cond.code (⟨"com/example/loadstone/loadstone/Xml", "isSpace", "(C)Z"⟩ : MethodName) prog_97_method_15_code 1 (some .boolean) :: ws) ({ frames := 0, cells := 0, slots := 0, locals := 0 } : Room)) (fun a U => a = #[(.int p1)] ∧ Z.Warmed39 U.vm ∧ U.heap = h0) (fun _ _ _ _ _ => True) (fun _ U o U' => ∃ v L, o = .returned v ∧ Q1 Z p1 h0 n0 v U'.heap L ∧ FrameEnd U o U' L ({ frames := 0, cells := 0, slots := 0, locals := 0 } : Room).cells ({ frames := 0, cells := 0, slots := 0, locals := 0 } : Room).slots) := by
  refine MetFree.of_bodySF (plainFor_of_name pn_1) hisR ?_
  intro p e s m args below meth c s₁ Bd hml0 hP hK
  obtain ⟨rfl, hZ, hh⟩ := hP
  have hx := Bd.exec
  have hby := Bd.bytes
  have hml : c.maxLocals = 1 := hml0
  have hown : s.vm.findClass "com/example/loadstone/loadstone/Xml" = some m.cls := findClass_of_methodNamed Bd.named
  have hnm := (name_of_methodNamed Bd.named Bd.method).1
  have X0 : Stand p l e ({ frames := 0, cells := 0, slots := 0, locals := 0 } : Room) s m #[(.int p1)] below meth c s₁ [] 0 0 := Stand.of_body Bd
  have e0 : s₁.heap = h0 := by rw [← hh, Bd.state]; rfl
  have N0 := Fr.nil n0
  have pre0 : ∀ t, Steps p.tables e below (s₁.setTop (mkF m 0 #[.val (.int p1)] [])) t → Steps p.tables e below (s₁.setTop (entryFrame m #[(.int p1)] 1)) t := fun t k => castTop (ef_1 m p1) k
  have pre2 : ∀ t, Steps p.tables e below (s₁.setTop (mkF m 3 #[.val (.int p1)] [(.int (32 : Int32)), (.int p1)])) t → Steps p.tables e below (s₁.setTop (entryFrame m #[(.int p1)] 1)) t := fun t kt => by
    refine pre0 _ ?_
    show Steps p.tables e below (s₁.setTop (mkF m 0 #[.val (.int p1)] [])) _
    refine XS.iloadN X0.here hx rfl (hb hby d1_0) rfl ?_
    show Steps p.tables e below (s₁.setTop (mkF m 1 _ [(.int p1)])) _
    refine XS.bipush X0.here hx rfl (hb hby d1_1) ?_
    exact kt
  by_cases hc3 : p1 = (32 : Int32)
  · skip
    obtain ⟨fs, hr, hrun, hended, hW, hsame⟩ := X0.leave (v := some (.int (1 : Int32))) (fun h => by rw [Bd.returns] at h; cases h)
    refine ⟨_, _, pre2 _ ?_, hrun, hended, _, _, rfl, ?_, ⟨_, rfl⟩, hW, hsame.mono (by decide) (by decide)⟩
    · show Steps p.tables e below (s₁.setTop (mkF m 3 #[.val (.int p1)] [(.int (32 : Int32)), (.int p1)])) _
      refine XS.icmpYes X0.here hx rfl (pc0 := 3) (pc' := 24) rfl (hb hby d1_3) rfl (teq hc3).1 (by decide) (by decide) ?_
      show Steps p.tables e below (s₁.setTop (mkF m 24 _ [])) _
      refine XS.iconst X0.here hx rfl (hb hby d1_24) ?_
      show Steps p.tables e below (s₁.setTop (mkF m 25 _ [(.int (1 : Int32))])) _
      refine XS.goto X0.here hx rfl (pc0 := 25) (pc' := 29) rfl (hb hby d1_25) (by decide) (by decide) ?_
      show Steps p.tables e below (s₁.setTop (mkF m 29 #[.val (.int p1)] [(.int (1 : Int32))])) _
      exact retN X0 hx (t := .boolean) Bd.returns (by simp) (hb hby d1_29) hr
    · show Q1 Z p1 h0 n0 _ s₁.heap _
      rw [e0]
      exact ⟨congrArg (fun z => some (Value.int z)) (by rw [f1, if_pos hc3] : f1 p1 = (1 : Int32)).symm, N0, rfl⟩
  · skip
    have pre4 : ∀ t, Steps p.tables e below (s₁.setTop (mkF m 9 #[.val (.int p1)] [(.int (9 : Int32)), (.int p1)])) t → Steps p.tables e below (s₁.setTop (entryFrame m #[(.int p1)] 1)) t := fun t kt => by
      refine pre2 _ ?_
      show Steps p.tables e below (s₁.setTop (mkF m 3 #[.val (.int p1)] [(.int (32 : Int32)), (.int p1)])) _
      refine XS.icmpNo X0.here hx rfl (hb hby d1_3) rfl (feq hc3).1 ?_
      show Steps p.tables e below (s₁.setTop (mkF m 6 _ [])) _
      refine XS.iloadN X0.here hx rfl (hb hby d1_6) rfl ?_
      show Steps p.tables e below (s₁.setTop (mkF m 7 _ [(.int p1)])) _
      refine XS.bipush X0.here hx rfl (hb hby d1_7) ?_
      exact kt
    by_cases hc5 : p1 = (9 : Int32)
    · skip
      obtain ⟨fs, hr, hrun, hended, hW, hsame⟩ := X0.leave (v := some (.int (1 : Int32))) (fun h => by rw [Bd.returns] at h; cases h)
      refine ⟨_, _, pre4 _ ?_, hrun, hended, _, _, rfl, ?_, ⟨_, rfl⟩, hW, hsame.mono (by decide) (by decide)⟩
      · show Steps p.tables e below (s₁.setTop (mkF m 9 #[.val (.int p1)] [(.int (9 : Int32)), (.int p1)])) _
        refine XS.icmpYes X0.here hx rfl (pc0 := 9) (pc' := 24) rfl (hb hby d1_9) rfl (teq hc5).1 (by decide) (by decide) ?_
        show Steps p.tables e below (s₁.setTop (mkF m 24 _ [])) _
        refine XS.iconst X0.here hx rfl (hb hby d1_24) ?_
        show Steps p.tables e below (s₁.setTop (mkF m 25 _ [(.int (1 : Int32))])) _
        refine XS.goto X0.here hx rfl (pc0 := 25) (pc' := 29) rfl (hb hby d1_25) (by decide) (by decide) ?_
        show Steps p.tables e below (s₁.setTop (mkF m 29 #[.val (.int p1)] [(.int (1 : Int32))])) _
        exact retN X0 hx (t := .boolean) Bd.returns (by simp) (hb hby d1_29) hr
      · show Q1 Z p1 h0 n0 _ s₁.heap _
        rw [e0]
        exact ⟨congrArg (fun z => some (Value.int z)) (by rw [f1, if_neg hc3, if_pos hc5] : f1 p1 = (1 : Int32)).symm, N0, rfl⟩
    · skip
      have pre6 : ∀ t, Steps p.tables e below (s₁.setTop (mkF m 15 #[.val (.int p1)] [(.int (13 : Int32)), (.int p1)])) t → Steps p.tables e below (s₁.setTop (entryFrame m #[(.int p1)] 1)) t := fun t kt => by
        refine pre4 _ ?_
        show Steps p.tables e below (s₁.setTop (mkF m 9 #[.val (.int p1)] [(.int (9 : Int32)), (.int p1)])) _
        refine XS.icmpNo X0.here hx rfl (hb hby d1_9) rfl (feq hc5).1 ?_
        show Steps p.tables e below (s₁.setTop (mkF m 12 _ [])) _
        refine XS.iloadN X0.here hx rfl (hb hby d1_12) rfl ?_
        show Steps p.tables e below (s₁.setTop (mkF m 13 _ [(.int p1)])) _
        refine XS.bipush X0.here hx rfl (hb hby d1_13) ?_
        exact kt
      by_cases hc7 : p1 = (13 : Int32)
      · skip
        obtain ⟨fs, hr, hrun, hended, hW, hsame⟩ := X0.leave (v := some (.int (1 : Int32))) (fun h => by rw [Bd.returns] at h; cases h)
        refine ⟨_, _, pre6 _ ?_, hrun, hended, _, _, rfl, ?_, ⟨_, rfl⟩, hW, hsame.mono (by decide) (by decide)⟩
        · show Steps p.tables e below (s₁.setTop (mkF m 15 #[.val (.int p1)] [(.int (13 : Int32)), (.int p1)])) _
          refine XS.icmpYes X0.here hx rfl (pc0 := 15) (pc' := 24) rfl (hb hby d1_15) rfl (teq hc7).1 (by decide) (by decide) ?_
          show Steps p.tables e below (s₁.setTop (mkF m 24 _ [])) _
          refine XS.iconst X0.here hx rfl (hb hby d1_24) ?_
          show Steps p.tables e below (s₁.setTop (mkF m 25 _ [(.int (1 : Int32))])) _
          refine XS.goto X0.here hx rfl (pc0 := 25) (pc' := 29) rfl (hb hby d1_25) (by decide) (by decide) ?_
          show Steps p.tables e below (s₁.setTop (mkF m 29 #[.val (.int p1)] [(.int (1 : Int32))])) _
          exact retN X0 hx (t := .boolean) Bd.returns (by simp) (hb hby d1_29) hr
        · show Q1 Z p1 h0 n0 _ s₁.heap _
          rw [e0]
          exact ⟨congrArg (fun z => some (Value.int z)) (by rw [f1, if_neg hc3, if_neg hc5, if_pos hc7] : f1 p1 = (1 : Int32)).symm, N0, rfl⟩
      · skip
        have pre8 : ∀ t, Steps p.tables e below (s₁.setTop (mkF m 21 #[.val (.int p1)] [(.int (10 : Int32)), (.int p1)])) t → Steps p.tables e below (s₁.setTop (entryFrame m #[(.int p1)] 1)) t := fun t kt => by
          refine pre6 _ ?_
          show Steps p.tables e below (s₁.setTop (mkF m 15 #[.val (.int p1)] [(.int (13 : Int32)), (.int p1)])) _
          refine XS.icmpNo X0.here hx rfl (hb hby d1_15) rfl (feq hc7).1 ?_
          show Steps p.tables e below (s₁.setTop (mkF m 18 _ [])) _
          refine XS.iloadN X0.here hx rfl (hb hby d1_18) rfl ?_
          show Steps p.tables e below (s₁.setTop (mkF m 19 _ [(.int p1)])) _
          refine XS.bipush X0.here hx rfl (hb hby d1_19) ?_
          exact kt
        by_cases hc9 : p1 = (10 : Int32)
        · skip
          obtain ⟨fs, hr, hrun, hended, hW, hsame⟩ := X0.leave (v := some (.int (1 : Int32))) (fun h => by rw [Bd.returns] at h; cases h)
          refine ⟨_, _, pre8 _ ?_, hrun, hended, _, _, rfl, ?_, ⟨_, rfl⟩, hW, hsame.mono (by decide) (by decide)⟩
          · show Steps p.tables e below (s₁.setTop (mkF m 21 #[.val (.int p1)] [(.int (10 : Int32)), (.int p1)])) _
            refine XS.icmpNo X0.here hx rfl (hb hby d1_21) rfl (teq hc9).2 ?_
            show Steps p.tables e below (s₁.setTop (mkF m 24 _ [])) _
            refine XS.iconst X0.here hx rfl (hb hby d1_24) ?_
            show Steps p.tables e below (s₁.setTop (mkF m 25 _ [(.int (1 : Int32))])) _
            refine XS.goto X0.here hx rfl (pc0 := 25) (pc' := 29) rfl (hb hby d1_25) (by decide) (by decide) ?_
            show Steps p.tables e below (s₁.setTop (mkF m 29 #[.val (.int p1)] [(.int (1 : Int32))])) _
            exact retN X0 hx (t := .boolean) Bd.returns (by simp) (hb hby d1_29) hr
          · show Q1 Z p1 h0 n0 _ s₁.heap _
            rw [e0]
            exact ⟨congrArg (fun z => some (Value.int z)) (by rw [f1, if_neg hc3, if_neg hc5, if_neg hc7, if_pos hc9] : f1 p1 = (1 : Int32)).symm, N0, rfl⟩
        · skip
          obtain ⟨fs, hr, hrun, hended, hW, hsame⟩ := X0.leave (v := some (.int (0 : Int32))) (fun h => by rw [Bd.returns] at h; cases h)
          refine ⟨_, _, pre8 _ ?_, hrun, hended, _, _, rfl, ?_, ⟨_, rfl⟩, hW, hsame.mono (by decide) (by decide)⟩
          · show Steps p.tables e below (s₁.setTop (mkF m 21 #[.val (.int p1)] [(.int (10 : Int32)), (.int p1)])) _
            refine XS.icmpYes X0.here hx rfl (pc0 := 21) (pc' := 28) rfl (hb hby d1_21) rfl (feq hc9).2 (by decide) (by decide) ?_
            show Steps p.tables e below (s₁.setTop (mkF m 28 _ [])) _
            refine XS.iconst X0.here hx rfl (hb hby d1_28) ?_
            show Steps p.tables e below (s₁.setTop (mkF m 29 #[.val (.int p1)] [(.int (0 : Int32))])) _
            exact retN X0 hx (t := .boolean) Bd.returns (by simp) (hb hby d1_29) hr
          · show Q1 Z p1 h0 n0 _ s₁.heap _
            rw [e0]
            exact ⟨congrArg (fun z => some (Value.int z)) (by rw [f1, if_neg hc3, if_neg hc5, if_neg hc7, if_neg hc9] : f1 p1 = (0 : Int32)).symm, N0, rfl⟩
theorem d2_0 : decode method_2_code 0 = .ok (.iload_n 0, 1) := by decide +kernel
theorem d2_1 : decode method_2_code 1 = .ok (.bipush 64, 2) := by decide +kernel
theorem d2_3 : decode method_2_code 3 = .ok (.if_icmp .lt 5, 3) := by decide +kernel
theorem d2_6 : decode method_2_code 6 = .ok (.iconst 0, 1) := by decide +kernel
theorem d2_7 : decode method_2_code 7 = .ok (.ireturn, 1) := by decide +kernel
theorem d2_8 : decode method_2_code 8 = .ok (.lconst 1, 1) := by decide +kernel
theorem d2_9 : decode method_2_code 9 = .ok (.iload_n 0, 1) := by decide +kernel
theorem d2_10 : decode method_2_code 10 = .ok (.lshl, 1) := by decide +kernel
theorem d2_11 : decode method_2_code 11 = .ok (.ldc2_w 9, 3) := by decide +kernel
theorem d2_14 : decode method_2_code 14 = .ok (.land, 1) := by decide +kernel
theorem d2_15 : decode method_2_code 15 = .ok (.lconst 0, 1) := by decide +kernel
theorem d2_16 : decode method_2_code 16 = .ok (.lcmp, 1) := by decide +kernel
theorem d2_17 : decode method_2_code 17 = .ok (.ifCond .eq 7, 3) := by decide +kernel
theorem d2_20 : decode method_2_code 20 = .ok (.iconst 1, 1) := by decide +kernel
theorem d2_21 : decode method_2_code 21 = .ok (.goto 4, 3) := by decide +kernel
theorem d2_24 : decode method_2_code 24 = .ok (.iconst 0, 1) := by decide +kernel
theorem d2_25 : decode method_2_code 25 = .ok (.ireturn, 1) := by decide +kernel
theorem pn_2 : plainName "com/example/loadstone/loadstone/XmlIsSpacePinLaw" = true := by first | (simp [plainName, overriddenIn]; done) | decide +kernel
theorem ef_2 (m : MethodId) (x0 : Int32) : entryFrame m #[(.int x0)] 1 = mkF m 0 #[.val (.int x0)] [] := by first | (simp [entryFrame, mkF, argsToLocals, Value.category]; done) | rfl
def f2 (p1 : Int32) : Int32 := (if p1 < (64 : Int32) then (if (((1 : Int64) <<< (p1 &&& 0x3f).toInt64) &&& (4294977024 : Int64)) = (0 : Int64) then (0 : Int32) else (1 : Int32)) else (0 : Int32))
def Q2 (Z : State) (p1 : Int32) (h0 : Heap) (n0 : Nat) (v : Option Value) (h : Heap) (L : List Loc) : Prop := v = some (.int (f2 p1)) ∧ Fr n0 L ∧ h = h0
set_option maxRecDepth 65536 in
set_option maxHeartbeats 40000000 in
theorem rm2 (l : Launch) (Z : State) (a0 : Array Value) (hw : ∀ d ∈ tables_1, d.before a0 Z = true) (ws : List Jvm.Cond) (p1 : Int32) (h0 : Heap) (n0 : Nat) (Z0 : n0 ≤ h0.size) :
    MetFree l (⟨"com/example/loadstone/loadstone/XmlIsSpacePinLaw", "expected", "(C)Z"⟩ : MethodName) (head1 (Jvm.Cond.code (⟨"com/example/loadstone/loadstone/XmlIsSpacePinLaw", "expected", "(C)Z"⟩ : MethodName) method_2_code 1 (some .boolean) :: ws) ({ frames := 0, cells := 0, slots := 0, locals := 0 } : Room)) (fun a U => a = #[(.int p1)] ∧ Z.Warmed39 U.vm ∧ U.heap = h0) (fun _ _ _ _ _ => True) (fun _ U o U' => ∃ v L, o = .returned v ∧ Q2 Z p1 h0 n0 v U'.heap L ∧ FrameEnd U o U' L ({ frames := 0, cells := 0, slots := 0, locals := 0 } : Room).cells ({ frames := 0, cells := 0, slots := 0, locals := 0 } : Room).slots) := by
  refine MetFree.of_bodySF (plainFor_of_name pn_2) hisR ?_
  intro p e s m args below meth c s₁ Bd hml0 hP hK
  obtain ⟨rfl, hZ, hh⟩ := hP
  have hx := Bd.exec
  have hby := Bd.bytes
  have hml : c.maxLocals = 1 := hml0
  have hown : s.vm.findClass "com/example/loadstone/loadstone/XmlIsSpacePinLaw" = some m.cls := findClass_of_methodNamed Bd.named
  have hnm := (name_of_methodNamed Bd.named Bd.method).1
  have X0 : Stand p l e ({ frames := 0, cells := 0, slots := 0, locals := 0 } : Room) s m #[(.int p1)] below meth c s₁ [] 0 0 := Stand.of_body Bd
  have e0 : s₁.heap = h0 := by rw [← hh, Bd.state]; rfl
  have N0 := Fr.nil n0
  have pre0 : ∀ t, Steps p.tables e below (s₁.setTop (mkF m 0 #[.val (.int p1)] [])) t → Steps p.tables e below (s₁.setTop (entryFrame m #[(.int p1)] 1)) t := fun t k => castTop (ef_2 m p1) k
  have pre2 : ∀ t, Steps p.tables e below (s₁.setTop (mkF m 3 #[.val (.int p1)] [(.int (64 : Int32)), (.int p1)])) t → Steps p.tables e below (s₁.setTop (entryFrame m #[(.int p1)] 1)) t := fun t kt => by
    refine pre0 _ ?_
    show Steps p.tables e below (s₁.setTop (mkF m 0 #[.val (.int p1)] [])) _
    refine XS.iloadN X0.here hx rfl (hb hby d2_0) rfl ?_
    show Steps p.tables e below (s₁.setTop (mkF m 1 _ [(.int p1)])) _
    refine XS.bipush X0.here hx rfl (hb hby d2_1) ?_
    exact kt
  by_cases hc3 : p1 < (64 : Int32)
  · skip
    have pre4 : ∀ t, Steps p.tables e below (s₁.setTop (mkF m 17 #[.val (.int p1)] [(.int (lcmpW (((1 : Int64) <<< (p1 &&& 0x3f).toInt64) &&& (4294977024 : Int64)) (0 : Int64)))])) t → Steps p.tables e below (s₁.setTop (entryFrame m #[(.int p1)] 1)) t := fun t kt => by
      refine pre2 _ ?_
      show Steps p.tables e below (s₁.setTop (mkF m 3 #[.val (.int p1)] [(.int (64 : Int32)), (.int p1)])) _
      refine XS.icmpYes X0.here hx rfl (pc0 := 3) (pc' := 8) rfl (hb hby d2_3) rfl (tlt hc3).1 (by decide) (by decide) ?_
      show Steps p.tables e below (s₁.setTop (mkF m 8 _ [])) _
      refine XS.lconst X0.here hx rfl (hb hby d2_8) ?_
      show Steps p.tables e below (s₁.setTop (mkF m 9 _ [(.long (1 : Int64))])) _
      refine XS.iloadN X0.here hx rfl (hb hby d2_9) rfl ?_
      show Steps p.tables e below (s₁.setTop (mkF m 10 _ [(.int p1), (.long (1 : Int64))])) _
      refine XS.lshl X0.here hx rfl (hb hby d2_10) rfl ?_
      show Steps p.tables e below (s₁.setTop (mkF m 11 _ [(.long ((1 : Int64) <<< (p1 &&& 0x3f).toInt64))])) _
      refine X0.ldc2Long hx hown (mvT hZ (hw _ (List.mem_of_getElem? (i := 9) rfl))) (g := (mkF m 11 #[.val (.int p1)] [(.long ((1 : Int64) <<< (p1 &&& 0x3f).toInt64))])) rfl (hb hby d2_11) _ ?_
      show Steps p.tables e below (s₁.setTop (mkF m 14 _ [(.long (4294977024 : Int64)), (.long ((1 : Int64) <<< (p1 &&& 0x3f).toInt64))])) _
      refine XS.land X0.here hx rfl (hb hby d2_14) rfl ?_
      show Steps p.tables e below (s₁.setTop (mkF m 15 _ [(.long (((1 : Int64) <<< (p1 &&& 0x3f).toInt64) &&& (4294977024 : Int64)))])) _
      refine XS.lconst X0.here hx rfl (hb hby d2_15) ?_
      show Steps p.tables e below (s₁.setTop (mkF m 16 _ [(.long (0 : Int64)), (.long (((1 : Int64) <<< (p1 &&& 0x3f).toInt64) &&& (4294977024 : Int64)))])) _
      refine XS.lcmp X0.here hx rfl (hb hby d2_16) rfl ?_
      exact kt
    by_cases hc5 : (((1 : Int64) <<< (p1 &&& 0x3f).toInt64) &&& (4294977024 : Int64)) = (0 : Int64)
    · skip
      obtain ⟨fs, hr, hrun, hended, hW, hsame⟩ := X0.leave (v := some (.int (0 : Int32))) (fun h => by rw [Bd.returns] at h; cases h)
      refine ⟨_, _, pre4 _ ?_, hrun, hended, _, _, rfl, ?_, ⟨_, rfl⟩, hW, hsame.mono (by decide) (by decide)⟩
      · show Steps p.tables e below (s₁.setTop (mkF m 17 #[.val (.int p1)] [(.int (lcmpW (((1 : Int64) <<< (p1 &&& 0x3f).toInt64) &&& (4294977024 : Int64)) (0 : Int64)))])) _
        refine XS.ifYes X0.here hx rfl (pc0 := 17) (pc' := 24) rfl (hb hby d2_17) rfl ((if0 _ _).trans (teq ((lw_eq _ _).mpr hc5)).1) (by decide) (by decide) ?_
        show Steps p.tables e below (s₁.setTop (mkF m 24 _ [])) _
        refine XS.iconst X0.here hx rfl (hb hby d2_24) ?_
        show Steps p.tables e below (s₁.setTop (mkF m 25 #[.val (.int p1)] [(.int (0 : Int32))])) _
        exact retN X0 hx (t := .boolean) Bd.returns (by simp) (hb hby d2_25) hr
      · show Q2 Z p1 h0 n0 _ s₁.heap _
        rw [e0]
        exact ⟨congrArg (fun z => some (Value.int z)) (by rw [f2, if_pos hc3, if_pos hc5] : f2 p1 = (0 : Int32)).symm, N0, rfl⟩
    · skip
      obtain ⟨fs, hr, hrun, hended, hW, hsame⟩ := X0.leave (v := some (.int (1 : Int32))) (fun h => by rw [Bd.returns] at h; cases h)
      refine ⟨_, _, pre4 _ ?_, hrun, hended, _, _, rfl, ?_, ⟨_, rfl⟩, hW, hsame.mono (by decide) (by decide)⟩
      · show Steps p.tables e below (s₁.setTop (mkF m 17 #[.val (.int p1)] [(.int (lcmpW (((1 : Int64) <<< (p1 &&& 0x3f).toInt64) &&& (4294977024 : Int64)) (0 : Int64)))])) _
        refine XS.ifNo X0.here hx rfl (hb hby d2_17) rfl ((if0 _ _).trans (feq (mt (lw_eq _ _).mp hc5)).1) ?_
        show Steps p.tables e below (s₁.setTop (mkF m 20 _ [])) _
        refine XS.iconst X0.here hx rfl (hb hby d2_20) ?_
        show Steps p.tables e below (s₁.setTop (mkF m 21 _ [(.int (1 : Int32))])) _
        refine XS.goto X0.here hx rfl (pc0 := 21) (pc' := 25) rfl (hb hby d2_21) (by decide) (by decide) ?_
        show Steps p.tables e below (s₁.setTop (mkF m 25 #[.val (.int p1)] [(.int (1 : Int32))])) _
        exact retN X0 hx (t := .boolean) Bd.returns (by simp) (hb hby d2_25) hr
      · show Q2 Z p1 h0 n0 _ s₁.heap _
        rw [e0]
        exact ⟨congrArg (fun z => some (Value.int z)) (by rw [f2, if_pos hc3, if_neg hc5] : f2 p1 = (1 : Int32)).symm, N0, rfl⟩
  · skip
    obtain ⟨fs, hr, hrun, hended, hW, hsame⟩ := X0.leave (v := some (.int (0 : Int32))) (fun h => by rw [Bd.returns] at h; cases h)
    refine ⟨_, _, pre2 _ ?_, hrun, hended, _, _, rfl, ?_, ⟨_, rfl⟩, hW, hsame.mono (by decide) (by decide)⟩
    · show Steps p.tables e below (s₁.setTop (mkF m 3 #[.val (.int p1)] [(.int (64 : Int32)), (.int p1)])) _
      refine XS.icmpNo X0.here hx rfl (hb hby d2_3) rfl (flt hc3).1 ?_
      show Steps p.tables e below (s₁.setTop (mkF m 6 _ [])) _
      refine XS.iconst X0.here hx rfl (hb hby d2_6) ?_
      show Steps p.tables e below (s₁.setTop (mkF m 7 #[.val (.int p1)] [(.int (0 : Int32))])) _
      exact retN X0 hx (t := .boolean) Bd.returns (by simp) (hb hby d2_7) hr
    · show Q2 Z p1 h0 n0 _ s₁.heap _
      rw [e0]
      exact ⟨congrArg (fun z => some (Value.int z)) (by rw [f2, if_neg hc3] : f2 p1 = (0 : Int32)).symm, N0, rfl⟩
theorem pn_0 : plainName "com/example/loadstone/loadstone/XmlIsSpacePinLaw" = true := by first | (simp [plainName, overriddenIn]; done) | decide +kernel
theorem pd_0_0 : parseMethodDescriptor "(C)Z" = some ⟨[.char], some .boolean⟩ := by decide +kernel
theorem ef_0 (m : MethodId) (x0 : Int32) (x1 : Int32) : entryFrame m #[(.int x0), (.int x1)] maxLocals = mkF m 0 #[.val (.int x0), .val (.int x1), .unset, .unset] [] := by first | (simp [entryFrame, mkF, argsToLocals, Value.category, maxLocals]; done) | rfl
def f0 (p1 : Int32) (p2 : Int32) : Int32 := (if (p2 &&& (1 : Int32)) = (0 : Int32) then (if (f1 (p1.toUInt32.toUInt16.toUInt32.toInt32)) = (f2 (p1.toUInt32.toUInt16.toUInt32.toInt32)) then (1 : Int32) else (0 : Int32)) else (if (f1 (own_at [(nar .char (32 : Int32)), (nar .char (9 : Int32)), (nar .char (13 : Int32)), (nar .char (10 : Int32))] (p1 &&& (3 : Int32)))) = (f2 (own_at [(nar .char (32 : Int32)), (nar .char (9 : Int32)), (nar .char (13 : Int32)), (nar .char (10 : Int32))] (p1 &&& (3 : Int32)))) then (1 : Int32) else (0 : Int32)))
def Q0 (Z : State) (p1 : Int32) (p2 : Int32) (h0 : Heap) (n0 : Nat) (v : Option Value) (h : Heap) (L : List Loc) : Prop := v = some (.int (f0 p1 p2)) ∧ Fr n0 L
set_option maxRecDepth 65536 in
set_option maxHeartbeats 40000000 in
theorem rm0 (l : Launch) (Z : State) (a0 : Array Value) (hw : ∀ d ∈ tables_1, d.before a0 Z = true) (ws : List Jvm.Cond) (p1 : Int32) (p2 : Int32) (h0 : Heap) (n0 : Nat) (Z0 : n0 ≤ h0.size) :
    MetFree l x (head1 (Jvm.Cond.code x code maxLocals ret :: ws) room_1) (fun a U => a = #[(.int p1), (.int p2)] ∧ Z.Warmed39 U.vm ∧ U.heap = h0) (fun _ _ _ _ _ => True) (fun _ U o U' => ∃ v L, o = .returned v ∧ Q0 Z p1 p2 h0 n0 v U'.heap L ∧ FrameEnd U o U' L room_1.cells room_1.slots) := by
  refine MetFree.of_bodySF (plainFor_of_name pn_0) hisR ?_
  intro p e s m args below meth c s₁ Bd hml0 hP hK
  obtain ⟨rfl, hZ, hh⟩ := hP
  have hx := Bd.exec
  have hby := Bd.bytes
  have hml : c.maxLocals = 4 := hml0
  have hown : s.vm.findClass "com/example/loadstone/loadstone/XmlIsSpacePinLaw" = some m.cls := findClass_of_methodNamed Bd.named
  have hnm := (name_of_methodNamed Bd.named Bd.method).1
  have X0 : Stand p l e room_1 s m #[(.int p1), (.int p2)] below meth c s₁ [] 0 0 := Stand.of_body Bd
  have e0 : s₁.heap = h0 := by rw [← hh, Bd.state]; rfl
  have N0 := Fr.nil n0
  have pre0 : ∀ t, Steps p.tables e below (s₁.setTop (mkF m 0 #[.val (.int p1), .val (.int p2), .unset, .unset] [])) t → Steps p.tables e below (s₁.setTop (entryFrame m #[(.int p1), (.int p2)] maxLocals)) t := fun t k => castTop (ef_0 m p1 p2) k
  obtain ⟨T3, h3, k3, X3, e3, E3, A3, st3⟩ := newP X0 hx hZ (hw _ (List.mem_of_getElem? (i := 0) rfl)) e0 (g := (mkF m 1 #[.val (.int p1), .val (.int p2), .unset, .unset] [(.int (4 : Int32))])) rfl (hb hby at_1) rfl (by decide) (cap := 4) (by decide) (by decide) (by decide) (by decide)
  obtain ⟨b3, g3⟩ : ∃ z, z = h0.size := ⟨_, rfl⟩
  rw [← g3] at A3 st3
  have g_b3 : n0 ≤ b3 := Nat.le_trans Z0 (Nat.le_of_eq g3.symm)
  have V_b3 : Arv Z h3 b3 k3 .char (4 : Int32) ([(0 : Int32), (0 : Int32), (0 : Int32), (0 : Int32)].map Value.int) (.int (0 : Int32)) := (Arv.new A3 (by decide)).pad (pad_rep [] (.int (0 : Int32)) 4)
  have Zs4 : n0 ≤ h3.size := (Nat.le_trans Z0 E3.1)
  obtain ⟨cl5, Ar5, qq5, Ss5, Nn5, Hh5, Gg5⟩ := V_b3
  have hin5 : ¬ ((0 : Int32) < 0 ∨ cl5.slots.size ≤ ((0 : Int32)).toNatClampNeg) := inb_of Ss5 ⟨by decide, by decide⟩
  obtain ⟨T5, h5, X5, e5, W5, st5⟩ := stC X3 hx hZ e3 Ar5 (j := (0 : Int32)) hin5 (g := (mkF m 7 #[.val (.int p1), .val (.int p2), .unset, .unset] [(.int (32 : Int32)), (.int (0 : Int32)), (.ref b3), (.ref b3)])) rfl rfl (hb hby at_7)
  have V5 : Arv Z h5 b3 k3 .char (4 : Int32) ([(nar .char (32 : Int32)), (0 : Int32), (0 : Int32), (0 : Int32)].map Value.int) (.int (0 : Int32)) := Arv.set Ar5 qq5 Ss5 Nn5 Hh5 Gg5 (fits_nar_char _) W5 0 rfl (Nat.le_of_ble_eq_true rfl)
  have N5 := Fr.snoc X5 N0 g_b3
  have Zs6 : n0 ≤ h5.size := (Nat.le_trans Zs4 (Keep.of_wr W5).1)
  obtain ⟨cl7, Ar7, qq7, Ss7, Nn7, Hh7, Gg7⟩ := V5
  have hin7 : ¬ ((1 : Int32) < 0 ∨ cl7.slots.size ≤ ((1 : Int32)).toNatClampNeg) := inb_of Ss7 ⟨by decide, by decide⟩
  obtain ⟨T7, h7, X7, e7, W7, st7⟩ := stC X5 hx hZ e5 Ar7 (j := (1 : Int32)) hin7 (g := (mkF m 12 #[.val (.int p1), .val (.int p2), .unset, .unset] [(.int (9 : Int32)), (.int (1 : Int32)), (.ref b3), (.ref b3)])) rfl rfl (hb hby at_12)
  have V7 : Arv Z h7 b3 k3 .char (4 : Int32) ([(nar .char (32 : Int32)), (nar .char (9 : Int32)), (0 : Int32), (0 : Int32)].map Value.int) (.int (0 : Int32)) := Arv.set Ar7 qq7 Ss7 Nn7 Hh7 Gg7 (fits_nar_char _) W7 1 rfl (Nat.le_of_ble_eq_true rfl)
  have N7 := Fr.snoc X7 N5 g_b3
  have Zs8 : n0 ≤ h7.size := (Nat.le_trans Zs6 (Keep.of_wr W7).1)
  obtain ⟨cl9, Ar9, qq9, Ss9, Nn9, Hh9, Gg9⟩ := V7
  have hin9 : ¬ ((2 : Int32) < 0 ∨ cl9.slots.size ≤ ((2 : Int32)).toNatClampNeg) := inb_of Ss9 ⟨by decide, by decide⟩
  obtain ⟨T9, h9, X9, e9, W9, st9⟩ := stC X7 hx hZ e7 Ar9 (j := (2 : Int32)) hin9 (g := (mkF m 17 #[.val (.int p1), .val (.int p2), .unset, .unset] [(.int (13 : Int32)), (.int (2 : Int32)), (.ref b3), (.ref b3)])) rfl rfl (hb hby at_17)
  have V9 : Arv Z h9 b3 k3 .char (4 : Int32) ([(nar .char (32 : Int32)), (nar .char (9 : Int32)), (nar .char (13 : Int32)), (0 : Int32)].map Value.int) (.int (0 : Int32)) := Arv.set Ar9 qq9 Ss9 Nn9 Hh9 Gg9 (fits_nar_char _) W9 2 rfl (Nat.le_of_ble_eq_true rfl)
  have N9 := Fr.snoc X9 N7 g_b3
  have Zs10 : n0 ≤ h9.size := (Nat.le_trans Zs8 (Keep.of_wr W9).1)
  obtain ⟨cl11, Ar11, qq11, Ss11, Nn11, Hh11, Gg11⟩ := V9
  have hin11 : ¬ ((3 : Int32) < 0 ∨ cl11.slots.size ≤ ((3 : Int32)).toNatClampNeg) := inb_of Ss11 ⟨by decide, by decide⟩
  obtain ⟨T11, h11, X11, e11, W11, st11⟩ := stC X9 hx hZ e9 Ar11 (j := (3 : Int32)) hin11 (g := (mkF m 22 #[.val (.int p1), .val (.int p2), .unset, .unset] [(.int (10 : Int32)), (.int (3 : Int32)), (.ref b3), (.ref b3)])) rfl rfl (hb hby at_22)
  have V11 : Arv Z h11 b3 k3 .char (4 : Int32) ([(nar .char (32 : Int32)), (nar .char (9 : Int32)), (nar .char (13 : Int32)), (nar .char (10 : Int32))].map Value.int) (.int (0 : Int32)) := Arv.set Ar11 qq11 Ss11 Nn11 Hh11 Gg11 (fits_nar_char _) W11 3 rfl (Nat.le_of_ble_eq_true rfl)
  have N11 := Fr.snoc X11 N9 g_b3
  have pre12 : ∀ t, Steps p.tables e below (T11.setTop (mkF m 27 #[.val (.int p1), .val (.int p2), .val (.ref b3), .unset] [(.int (p2 &&& (1 : Int32)))])) t → Steps p.tables e below (s₁.setTop (entryFrame m #[(.int p1), (.int p2)] maxLocals)) t := fun t kt => by
    refine pre0 _ ?_
    show Steps p.tables e below (s₁.setTop (mkF m 0 #[.val (.int p1), .val (.int p2), .unset, .unset] [])) _
    refine XS.iconst X0.here hx rfl (hb hby at_0) ?_
    show Steps p.tables e below (s₁.setTop (mkF m 1 _ [(.int (4 : Int32))])) _
    refine st3 _ ?_
    show Steps p.tables e below (T3.setTop (mkF m 3 _ [(.ref b3)])) _
    refine XS.dup X3.here hx rfl (hb hby at_3) rfl rfl ?_
    show Steps p.tables e below (T3.setTop (mkF m 4 _ [(.ref b3), (.ref b3)])) _
    refine XS.iconst X3.here hx rfl (hb hby at_4) ?_
    show Steps p.tables e below (T3.setTop (mkF m 5 _ [(.int (0 : Int32)), (.ref b3), (.ref b3)])) _
    refine XS.bipush X3.here hx rfl (hb hby at_5) ?_
    show Steps p.tables e below (T3.setTop (mkF m 7 _ [(.int (32 : Int32)), (.int (0 : Int32)), (.ref b3), (.ref b3)])) _
    refine st5 _ ?_
    show Steps p.tables e below (T5.setTop (mkF m 8 _ [(.ref b3)])) _
    refine XS.dup X5.here hx rfl (hb hby at_8) rfl rfl ?_
    show Steps p.tables e below (T5.setTop (mkF m 9 _ [(.ref b3), (.ref b3)])) _
    refine XS.iconst X5.here hx rfl (hb hby at_9) ?_
    show Steps p.tables e below (T5.setTop (mkF m 10 _ [(.int (1 : Int32)), (.ref b3), (.ref b3)])) _
    refine XS.bipush X5.here hx rfl (hb hby at_10) ?_
    show Steps p.tables e below (T5.setTop (mkF m 12 _ [(.int (9 : Int32)), (.int (1 : Int32)), (.ref b3), (.ref b3)])) _
    refine st7 _ ?_
    show Steps p.tables e below (T7.setTop (mkF m 13 _ [(.ref b3)])) _
    refine XS.dup X7.here hx rfl (hb hby at_13) rfl rfl ?_
    show Steps p.tables e below (T7.setTop (mkF m 14 _ [(.ref b3), (.ref b3)])) _
    refine XS.iconst X7.here hx rfl (hb hby at_14) ?_
    show Steps p.tables e below (T7.setTop (mkF m 15 _ [(.int (2 : Int32)), (.ref b3), (.ref b3)])) _
    refine XS.bipush X7.here hx rfl (hb hby at_15) ?_
    show Steps p.tables e below (T7.setTop (mkF m 17 _ [(.int (13 : Int32)), (.int (2 : Int32)), (.ref b3), (.ref b3)])) _
    refine st9 _ ?_
    show Steps p.tables e below (T9.setTop (mkF m 18 _ [(.ref b3)])) _
    refine XS.dup X9.here hx rfl (hb hby at_18) rfl rfl ?_
    show Steps p.tables e below (T9.setTop (mkF m 19 _ [(.ref b3), (.ref b3)])) _
    refine XS.iconst X9.here hx rfl (hb hby at_19) ?_
    show Steps p.tables e below (T9.setTop (mkF m 20 _ [(.int (3 : Int32)), (.ref b3), (.ref b3)])) _
    refine XS.bipush X9.here hx rfl (hb hby at_20) ?_
    show Steps p.tables e below (T9.setTop (mkF m 22 _ [(.int (10 : Int32)), (.int (3 : Int32)), (.ref b3), (.ref b3)])) _
    refine st11 _ ?_
    show Steps p.tables e below (T11.setTop (mkF m 23 _ [(.ref b3)])) _
    refine XS.astoreN X11.here hx rfl (hb hby at_23) rfl rfl (l' := #[.val (.int p1), .val (.int p2), .val (.ref b3), .unset]) rfl ?_
    show Steps p.tables e below (T11.setTop (mkF m 24 _ [])) _
    refine XS.iloadN X11.here hx rfl (hb hby at_24) rfl ?_
    show Steps p.tables e below (T11.setTop (mkF m 25 _ [(.int p2)])) _
    refine XS.iconst X11.here hx rfl (hb hby at_25) ?_
    show Steps p.tables e below (T11.setTop (mkF m 26 _ [(.int (1 : Int32)), (.int p2)])) _
    refine XS.iand X11.here hx rfl (hb hby at_26) rfl ?_
    exact kt
  by_cases hc13 : (p2 &&& (1 : Int32)) = (0 : Int32)
  · skip
    have Zs15 : n0 ≤ h11.size := (Nat.le_trans Zs10 (Keep.of_wr W11).1)
    obtain ⟨_, _, ⟨T14, L14, k14, n14⟩, -, X14, ⟨Lc14, hQ14, l14, y14, z14⟩, st14⟩ := Jvm.LawKit.callS X11 hx (y := (⟨"com/example/loadstone/loadstone/Xml", "isSpace", "(C)Z"⟩ : MethodName)) hown (mvT hZ (hw _ (List.mem_of_getElem? (i := 1) rfl))) (mvT hZ (hw _ (List.mem_of_getElem? (i := 2) rfl))) (mvT hZ (hw _ (List.mem_of_getElem? (i := 3) rfl))) (mvT hZ (hw _ (List.mem_of_getElem? (i := 4) rfl))) (by decide) (backOf (W := 0) (rm1 l Z a0 hw [] (p1.toUInt32.toUInt16.toUInt32.toInt32) h11 n0 Zs15 ) hZ (hw _ (List.mem_of_getElem? (i := 4) rfl)) (hw _ (List.mem_of_getElem? (i := 3) rfl)) (by decide) (by decide)) (g := (mkF m 43 #[.val (.int p1), .val (.int p2), .val (.ref b3), .val (.int (p1.toUInt32.toUInt16.toUInt32.toInt32))] [(.int (p1.toUInt32.toUInt16.toUInt32.toInt32))])) rfl (by rw [hml]; rfl) (argsL := [(.int (p1.toUInt32.toUInt16.toUInt32.toInt32))]) (rest := []) (lenOf pd_0_0 rfl) rfl (by show 2 * 0 + _ ≤ _; exact Nat.le_of_eq rfl) (hb hby at_43) (fun _ _ => ⟨rfl, e11, (by decide : 1 + 0 ≤ _), (by decide : 4 + 0 ≤ _)⟩)
    dsimp only [Pt.U, Pt.locs, Pt.cells, Pt.slots] at X14 l14 y14 z14 st14 hQ14
    subst l14 y14 z14
    obtain ⟨rfl, N14q, e14⟩ := hQ14
    have N14 := Fr.app N11 N14q
    obtain ⟨_, _, ⟨T16, L16, k16, n16⟩, -, X16, ⟨Lc16, hQ16, l16, y16, z16⟩, st16⟩ := Jvm.LawKit.callS X14 hx (y := (⟨"com/example/loadstone/loadstone/XmlIsSpacePinLaw", "expected", "(C)Z"⟩ : MethodName)) hown (mvT hZ (hw _ (List.mem_of_getElem? (i := 5) rfl))) (mvT hZ (hw _ (List.mem_of_getElem? (i := 6) rfl))) (mvT hZ (hw _ (List.mem_of_getElem? (i := 7) rfl))) (mvT hZ (hw _ (List.mem_of_getElem? (i := 8) rfl))) (by decide) (backOf (W := 1) (rm2 l Z a0 hw [] (p1.toUInt32.toUInt16.toUInt32.toInt32) h11 n0 Zs15 ) hZ (hw _ (List.mem_of_getElem? (i := 8) rfl)) (hw _ (List.mem_of_getElem? (i := 7) rfl)) (by decide) (by decide)) (g := (mkF m 47 #[.val (.int p1), .val (.int p2), .val (.ref b3), .val (.int (p1.toUInt32.toUInt16.toUInt32.toInt32))] [(.int (p1.toUInt32.toUInt16.toUInt32.toInt32)), (.int (f1 (p1.toUInt32.toUInt16.toUInt32.toInt32)))])) rfl (by rw [hml]; rfl) (argsL := [(.int (p1.toUInt32.toUInt16.toUInt32.toInt32))]) (rest := [(.int (f1 (p1.toUInt32.toUInt16.toUInt32.toInt32)))]) (lenOf pd_0_0 rfl) rfl (by show 2 * 0 + _ ≤ _; exact Nat.le_of_eq rfl) (hb hby at_47) (fun _ _ => ⟨rfl, e14, (by decide : 1 + 0 ≤ _), (by decide : 4 + 0 ≤ _)⟩)
    dsimp only [Pt.U, Pt.locs, Pt.cells, Pt.slots] at X16 l16 y16 z16 st16 hQ16
    subst l16 y16 z16
    obtain ⟨rfl, N16q, e16⟩ := hQ16
    have N16 := Fr.app N14 N16q
    have pre17 : ∀ t, Steps p.tables e below (T16.setTop (mkF m 50 #[.val (.int p1), .val (.int p2), .val (.ref b3), .val (.int (p1.toUInt32.toUInt16.toUInt32.toInt32))] [(.int (f2 (p1.toUInt32.toUInt16.toUInt32.toInt32))), (.int (f1 (p1.toUInt32.toUInt16.toUInt32.toInt32)))])) t → Steps p.tables e below (s₁.setTop (entryFrame m #[(.int p1), (.int p2)] maxLocals)) t := fun t kt => by
      refine pre12 _ ?_
      show Steps p.tables e below (T11.setTop (mkF m 27 #[.val (.int p1), .val (.int p2), .val (.ref b3), .unset] [(.int (p2 &&& (1 : Int32)))])) _
      refine XS.ifYes X11.here hx rfl (pc0 := 27) (pc' := 39) rfl (hb hby at_27) rfl ((if0 _ _).trans (teq hc13).1) (by decide) (by decide) ?_
      show Steps p.tables e below (T11.setTop (mkF m 39 _ [])) _
      refine XS.iloadN X11.here hx rfl (hb hby at_39) rfl ?_
      show Steps p.tables e below (T11.setTop (mkF m 40 _ [(.int p1)])) _
      refine XS.i2c X11.here hx rfl (hb hby at_40) rfl ?_
      show Steps p.tables e below (T11.setTop (mkF m 41 _ [(.int (p1.toUInt32.toUInt16.toUInt32.toInt32))])) _
      refine XS.istoreN X11.here hx rfl (hb hby at_41) rfl (l' := #[.val (.int p1), .val (.int p2), .val (.ref b3), .val (.int (p1.toUInt32.toUInt16.toUInt32.toInt32))]) rfl ?_
      show Steps p.tables e below (T11.setTop (mkF m 42 _ [])) _
      refine XS.iloadN X11.here hx rfl (hb hby at_42) rfl ?_
      show Steps p.tables e below (T11.setTop (mkF m 43 _ [(.int (p1.toUInt32.toUInt16.toUInt32.toInt32))])) _
      refine st14 _ ?_
      show Steps p.tables e below (T14.setTop (mkF m 46 _ [(.int (f1 (p1.toUInt32.toUInt16.toUInt32.toInt32)))])) _
      refine XS.iloadN X14.here hx rfl (hb hby at_46) rfl ?_
      show Steps p.tables e below (T14.setTop (mkF m 47 _ [(.int (p1.toUInt32.toUInt16.toUInt32.toInt32)), (.int (f1 (p1.toUInt32.toUInt16.toUInt32.toInt32)))])) _
      refine st16 _ ?_
      exact kt
    by_cases hc18 : (f1 (p1.toUInt32.toUInt16.toUInt32.toInt32)) = (f2 (p1.toUInt32.toUInt16.toUInt32.toInt32))
    · skip
      obtain ⟨fs, hr, hrun, hended, hW, hsame⟩ := X16.leave (v := some (.int (1 : Int32))) (fun h => by rw [Bd.returns] at h; cases h)
      refine ⟨_, _, pre17 _ ?_, hrun, hended, _, _, rfl, ?_, ⟨_, rfl⟩, hW, hsame.mono (by decide) (by decide)⟩
      · show Steps p.tables e below (T16.setTop (mkF m 50 #[.val (.int p1), .val (.int p2), .val (.ref b3), .val (.int (p1.toUInt32.toUInt16.toUInt32.toInt32))] [(.int (f2 (p1.toUInt32.toUInt16.toUInt32.toInt32))), (.int (f1 (p1.toUInt32.toUInt16.toUInt32.toInt32)))])) _
        refine XS.icmpNo X16.here hx rfl (hb hby at_50) rfl (teq hc18).2 ?_
        show Steps p.tables e below (T16.setTop (mkF m 53 _ [])) _
        refine XS.iconst X16.here hx rfl (hb hby at_53) ?_
        show Steps p.tables e below (T16.setTop (mkF m 54 _ [(.int (1 : Int32))])) _
        refine XS.goto X16.here hx rfl (pc0 := 54) (pc' := 58) rfl (hb hby at_54) (by decide) (by decide) ?_
        show Steps p.tables e below (T16.setTop (mkF m 58 #[.val (.int p1), .val (.int p2), .val (.ref b3), .val (.int (p1.toUInt32.toUInt16.toUInt32.toInt32))] [(.int (1 : Int32))])) _
        exact retN X16 hx (t := .boolean) Bd.returns (by simp) (hb hby at_58) hr
      · show Q0 Z p1 p2 h0 n0 _ T16.heap _
        rw [e16]
        exact ⟨congrArg (fun z => some (Value.int z)) (by rw [f0, if_pos hc13, if_pos hc18] : f0 p1 p2 = (1 : Int32)).symm, N16⟩
    · skip
      obtain ⟨fs, hr, hrun, hended, hW, hsame⟩ := X16.leave (v := some (.int (0 : Int32))) (fun h => by rw [Bd.returns] at h; cases h)
      refine ⟨_, _, pre17 _ ?_, hrun, hended, _, _, rfl, ?_, ⟨_, rfl⟩, hW, hsame.mono (by decide) (by decide)⟩
      · show Steps p.tables e below (T16.setTop (mkF m 50 #[.val (.int p1), .val (.int p2), .val (.ref b3), .val (.int (p1.toUInt32.toUInt16.toUInt32.toInt32))] [(.int (f2 (p1.toUInt32.toUInt16.toUInt32.toInt32))), (.int (f1 (p1.toUInt32.toUInt16.toUInt32.toInt32)))])) _
        refine XS.icmpYes X16.here hx rfl (pc0 := 50) (pc' := 57) rfl (hb hby at_50) rfl (feq hc18).2 (by decide) (by decide) ?_
        show Steps p.tables e below (T16.setTop (mkF m 57 _ [])) _
        refine XS.iconst X16.here hx rfl (hb hby at_57) ?_
        show Steps p.tables e below (T16.setTop (mkF m 58 #[.val (.int p1), .val (.int p2), .val (.ref b3), .val (.int (p1.toUInt32.toUInt16.toUInt32.toInt32))] [(.int (0 : Int32))])) _
        exact retN X16 hx (t := .boolean) Bd.returns (by simp) (hb hby at_58) hr
      · show Q0 Z p1 p2 h0 n0 _ T16.heap _
        rw [e16]
        exact ⟨congrArg (fun z => some (Value.int z)) (by rw [f0, if_pos hc13, if_neg hc18] : f0 p1 p2 = (0 : Int32)).symm, N16⟩
  · skip
    have Zs19 : n0 ≤ h11.size := (Nat.le_trans Zs10 (Keep.of_wr W11).1)
    obtain ⟨cl20, Ar20, qq20, Ss20, Nn20, Hh20, Gg20⟩ := V11
    have hin20 : ¬ ((p1 &&& (3 : Int32)) < 0 ∨ cl20.slots.size ≤ ((p1 &&& (3 : Int32))).toNatClampNeg) := inb_of Ss20 (own_in3 p1)
    have hat20 := Has.at (v := (.int (own_at [(nar .char (32 : Int32)), (nar .char (9 : Int32)), (nar .char (13 : Int32)), (nar .char (10 : Int32))] (p1 &&& (3 : Int32))))) Hh20 hin20 (own_getD _ _)
    obtain ⟨_, _, ⟨T21, L21, k21, n21⟩, -, X21, ⟨Lc21, hQ21, l21, y21, z21⟩, st21⟩ := Jvm.LawKit.callS X11 hx (y := (⟨"com/example/loadstone/loadstone/Xml", "isSpace", "(C)Z"⟩ : MethodName)) hown (mvT hZ (hw _ (List.mem_of_getElem? (i := 1) rfl))) (mvT hZ (hw _ (List.mem_of_getElem? (i := 2) rfl))) (mvT hZ (hw _ (List.mem_of_getElem? (i := 3) rfl))) (mvT hZ (hw _ (List.mem_of_getElem? (i := 4) rfl))) (by decide) (backOf (W := 0) (rm1 l Z a0 hw [] (own_at [(nar .char (32 : Int32)), (nar .char (9 : Int32)), (nar .char (13 : Int32)), (nar .char (10 : Int32))] (p1 &&& (3 : Int32))) h11 n0 Zs19 ) hZ (hw _ (List.mem_of_getElem? (i := 4) rfl)) (hw _ (List.mem_of_getElem? (i := 3) rfl)) (by decide) (by decide)) (g := (mkF m 43 #[.val (.int p1), .val (.int p2), .val (.ref b3), .val (.int (own_at [(nar .char (32 : Int32)), (nar .char (9 : Int32)), (nar .char (13 : Int32)), (nar .char (10 : Int32))] (p1 &&& (3 : Int32))))] [(.int (own_at [(nar .char (32 : Int32)), (nar .char (9 : Int32)), (nar .char (13 : Int32)), (nar .char (10 : Int32))] (p1 &&& (3 : Int32))))])) rfl (by rw [hml]; rfl) (argsL := [(.int (own_at [(nar .char (32 : Int32)), (nar .char (9 : Int32)), (nar .char (13 : Int32)), (nar .char (10 : Int32))] (p1 &&& (3 : Int32))))]) (rest := []) (lenOf pd_0_0 rfl) rfl (by show 2 * 0 + _ ≤ _; exact Nat.le_of_eq rfl) (hb hby at_43) (fun _ _ => ⟨rfl, e11, (by decide : 1 + 0 ≤ _), (by decide : 4 + 0 ≤ _)⟩)
    dsimp only [Pt.U, Pt.locs, Pt.cells, Pt.slots] at X21 l21 y21 z21 st21 hQ21
    subst l21 y21 z21
    obtain ⟨rfl, N21q, e21⟩ := hQ21
    have N21 := Fr.app N11 N21q
    obtain ⟨_, _, ⟨T22, L22, k22, n22⟩, -, X22, ⟨Lc22, hQ22, l22, y22, z22⟩, st22⟩ := Jvm.LawKit.callS X21 hx (y := (⟨"com/example/loadstone/loadstone/XmlIsSpacePinLaw", "expected", "(C)Z"⟩ : MethodName)) hown (mvT hZ (hw _ (List.mem_of_getElem? (i := 5) rfl))) (mvT hZ (hw _ (List.mem_of_getElem? (i := 6) rfl))) (mvT hZ (hw _ (List.mem_of_getElem? (i := 7) rfl))) (mvT hZ (hw _ (List.mem_of_getElem? (i := 8) rfl))) (by decide) (backOf (W := 1) (rm2 l Z a0 hw [] (own_at [(nar .char (32 : Int32)), (nar .char (9 : Int32)), (nar .char (13 : Int32)), (nar .char (10 : Int32))] (p1 &&& (3 : Int32))) h11 n0 Zs19 ) hZ (hw _ (List.mem_of_getElem? (i := 8) rfl)) (hw _ (List.mem_of_getElem? (i := 7) rfl)) (by decide) (by decide)) (g := (mkF m 47 #[.val (.int p1), .val (.int p2), .val (.ref b3), .val (.int (own_at [(nar .char (32 : Int32)), (nar .char (9 : Int32)), (nar .char (13 : Int32)), (nar .char (10 : Int32))] (p1 &&& (3 : Int32))))] [(.int (own_at [(nar .char (32 : Int32)), (nar .char (9 : Int32)), (nar .char (13 : Int32)), (nar .char (10 : Int32))] (p1 &&& (3 : Int32)))), (.int (f1 (own_at [(nar .char (32 : Int32)), (nar .char (9 : Int32)), (nar .char (13 : Int32)), (nar .char (10 : Int32))] (p1 &&& (3 : Int32)))))])) rfl (by rw [hml]; rfl) (argsL := [(.int (own_at [(nar .char (32 : Int32)), (nar .char (9 : Int32)), (nar .char (13 : Int32)), (nar .char (10 : Int32))] (p1 &&& (3 : Int32))))]) (rest := [(.int (f1 (own_at [(nar .char (32 : Int32)), (nar .char (9 : Int32)), (nar .char (13 : Int32)), (nar .char (10 : Int32))] (p1 &&& (3 : Int32)))))]) (lenOf pd_0_0 rfl) rfl (by show 2 * 0 + _ ≤ _; exact Nat.le_of_eq rfl) (hb hby at_47) (fun _ _ => ⟨rfl, e21, (by decide : 1 + 0 ≤ _), (by decide : 4 + 0 ≤ _)⟩)
    dsimp only [Pt.U, Pt.locs, Pt.cells, Pt.slots] at X22 l22 y22 z22 st22 hQ22
    subst l22 y22 z22
    obtain ⟨rfl, N22q, e22⟩ := hQ22
    have N22 := Fr.app N21 N22q
    have pre23 : ∀ t, Steps p.tables e below (T22.setTop (mkF m 50 #[.val (.int p1), .val (.int p2), .val (.ref b3), .val (.int (own_at [(nar .char (32 : Int32)), (nar .char (9 : Int32)), (nar .char (13 : Int32)), (nar .char (10 : Int32))] (p1 &&& (3 : Int32))))] [(.int (f2 (own_at [(nar .char (32 : Int32)), (nar .char (9 : Int32)), (nar .char (13 : Int32)), (nar .char (10 : Int32))] (p1 &&& (3 : Int32))))), (.int (f1 (own_at [(nar .char (32 : Int32)), (nar .char (9 : Int32)), (nar .char (13 : Int32)), (nar .char (10 : Int32))] (p1 &&& (3 : Int32)))))])) t → Steps p.tables e below (s₁.setTop (entryFrame m #[(.int p1), (.int p2)] maxLocals)) t := fun t kt => by
      refine pre12 _ ?_
      show Steps p.tables e below (T11.setTop (mkF m 27 #[.val (.int p1), .val (.int p2), .val (.ref b3), .unset] [(.int (p2 &&& (1 : Int32)))])) _
      refine XS.ifNo X11.here hx rfl (hb hby at_27) rfl ((if0 _ _).trans (feq hc13).1) ?_
      show Steps p.tables e below (T11.setTop (mkF m 30 _ [])) _
      refine XS.aloadN X11.here hx rfl (hb hby at_30) rfl rfl ?_
      show Steps p.tables e below (T11.setTop (mkF m 31 _ [(.ref b3)])) _
      refine XS.iloadN X11.here hx rfl (hb hby at_31) rfl ?_
      show Steps p.tables e below (T11.setTop (mkF m 32 _ [(.int p1), (.ref b3)])) _
      refine XS.iconst X11.here hx rfl (hb hby at_32) ?_
      show Steps p.tables e below (T11.setTop (mkF m 33 _ [(.int (3 : Int32)), (.int p1), (.ref b3)])) _
      refine XS.iand X11.here hx rfl (hb hby at_33) rfl ?_
      show Steps p.tables e below (T11.setTop (mkF m 34 _ [(.int (p1 &&& (3 : Int32))), (.ref b3)])) _
      refine X11.caload hx (j := (p1 &&& (3 : Int32))) (v := (.int (own_at [(nar .char (32 : Int32)), (nar .char (9 : Int32)), (nar .char (13 : Int32)), (nar .char (10 : Int32))] (p1 &&& (3 : Int32))))) (by rw [e11]; exact Ar20.1) (State.isArrayOf_alike hZ.alike Ar20.2.1) Ar20.2.2 hin20 hat20 (g := (mkF m 34 #[.val (.int p1), .val (.int p2), .val (.ref b3), .unset] [(.int (p1 &&& (3 : Int32))), (.ref b3)])) rfl rfl (hb hby at_34) _ ?_
      show Steps p.tables e below (T11.setTop (mkF m 35 _ [(.int (own_at [(nar .char (32 : Int32)), (nar .char (9 : Int32)), (nar .char (13 : Int32)), (nar .char (10 : Int32))] (p1 &&& (3 : Int32))))])) _
      refine XS.istoreN X11.here hx rfl (hb hby at_35) rfl (l' := #[.val (.int p1), .val (.int p2), .val (.ref b3), .val (.int (own_at [(nar .char (32 : Int32)), (nar .char (9 : Int32)), (nar .char (13 : Int32)), (nar .char (10 : Int32))] (p1 &&& (3 : Int32))))]) rfl ?_
      show Steps p.tables e below (T11.setTop (mkF m 36 _ [])) _
      refine XS.goto X11.here hx rfl (pc0 := 36) (pc' := 42) rfl (hb hby at_36) (by decide) (by decide) ?_
      show Steps p.tables e below (T11.setTop (mkF m 42 _ [])) _
      refine XS.iloadN X11.here hx rfl (hb hby at_42) rfl ?_
      show Steps p.tables e below (T11.setTop (mkF m 43 _ [(.int (own_at [(nar .char (32 : Int32)), (nar .char (9 : Int32)), (nar .char (13 : Int32)), (nar .char (10 : Int32))] (p1 &&& (3 : Int32))))])) _
      refine st21 _ ?_
      show Steps p.tables e below (T21.setTop (mkF m 46 _ [(.int (f1 (own_at [(nar .char (32 : Int32)), (nar .char (9 : Int32)), (nar .char (13 : Int32)), (nar .char (10 : Int32))] (p1 &&& (3 : Int32)))))])) _
      refine XS.iloadN X21.here hx rfl (hb hby at_46) rfl ?_
      show Steps p.tables e below (T21.setTop (mkF m 47 _ [(.int (own_at [(nar .char (32 : Int32)), (nar .char (9 : Int32)), (nar .char (13 : Int32)), (nar .char (10 : Int32))] (p1 &&& (3 : Int32)))), (.int (f1 (own_at [(nar .char (32 : Int32)), (nar .char (9 : Int32)), (nar .char (13 : Int32)), (nar .char (10 : Int32))] (p1 &&& (3 : Int32)))))])) _
      refine st22 _ ?_
      exact kt
    by_cases hc24 : (f1 (own_at [(nar .char (32 : Int32)), (nar .char (9 : Int32)), (nar .char (13 : Int32)), (nar .char (10 : Int32))] (p1 &&& (3 : Int32)))) = (f2 (own_at [(nar .char (32 : Int32)), (nar .char (9 : Int32)), (nar .char (13 : Int32)), (nar .char (10 : Int32))] (p1 &&& (3 : Int32))))
    · skip
      obtain ⟨fs, hr, hrun, hended, hW, hsame⟩ := X22.leave (v := some (.int (1 : Int32))) (fun h => by rw [Bd.returns] at h; cases h)
      refine ⟨_, _, pre23 _ ?_, hrun, hended, _, _, rfl, ?_, ⟨_, rfl⟩, hW, hsame.mono (by decide) (by decide)⟩
      · show Steps p.tables e below (T22.setTop (mkF m 50 #[.val (.int p1), .val (.int p2), .val (.ref b3), .val (.int (own_at [(nar .char (32 : Int32)), (nar .char (9 : Int32)), (nar .char (13 : Int32)), (nar .char (10 : Int32))] (p1 &&& (3 : Int32))))] [(.int (f2 (own_at [(nar .char (32 : Int32)), (nar .char (9 : Int32)), (nar .char (13 : Int32)), (nar .char (10 : Int32))] (p1 &&& (3 : Int32))))), (.int (f1 (own_at [(nar .char (32 : Int32)), (nar .char (9 : Int32)), (nar .char (13 : Int32)), (nar .char (10 : Int32))] (p1 &&& (3 : Int32)))))])) _
        refine XS.icmpNo X22.here hx rfl (hb hby at_50) rfl (teq hc24).2 ?_
        show Steps p.tables e below (T22.setTop (mkF m 53 _ [])) _
        refine XS.iconst X22.here hx rfl (hb hby at_53) ?_
        show Steps p.tables e below (T22.setTop (mkF m 54 _ [(.int (1 : Int32))])) _
        refine XS.goto X22.here hx rfl (pc0 := 54) (pc' := 58) rfl (hb hby at_54) (by decide) (by decide) ?_
        show Steps p.tables e below (T22.setTop (mkF m 58 #[.val (.int p1), .val (.int p2), .val (.ref b3), .val (.int (own_at [(nar .char (32 : Int32)), (nar .char (9 : Int32)), (nar .char (13 : Int32)), (nar .char (10 : Int32))] (p1 &&& (3 : Int32))))] [(.int (1 : Int32))])) _
        exact retN X22 hx (t := .boolean) Bd.returns (by simp) (hb hby at_58) hr
      · show Q0 Z p1 p2 h0 n0 _ T22.heap _
        rw [e22]
        exact ⟨congrArg (fun z => some (Value.int z)) (by rw [f0, if_neg hc13, if_pos hc24] : f0 p1 p2 = (1 : Int32)).symm, N22⟩
    · skip
      obtain ⟨fs, hr, hrun, hended, hW, hsame⟩ := X22.leave (v := some (.int (0 : Int32))) (fun h => by rw [Bd.returns] at h; cases h)
      refine ⟨_, _, pre23 _ ?_, hrun, hended, _, _, rfl, ?_, ⟨_, rfl⟩, hW, hsame.mono (by decide) (by decide)⟩
      · show Steps p.tables e below (T22.setTop (mkF m 50 #[.val (.int p1), .val (.int p2), .val (.ref b3), .val (.int (own_at [(nar .char (32 : Int32)), (nar .char (9 : Int32)), (nar .char (13 : Int32)), (nar .char (10 : Int32))] (p1 &&& (3 : Int32))))] [(.int (f2 (own_at [(nar .char (32 : Int32)), (nar .char (9 : Int32)), (nar .char (13 : Int32)), (nar .char (10 : Int32))] (p1 &&& (3 : Int32))))), (.int (f1 (own_at [(nar .char (32 : Int32)), (nar .char (9 : Int32)), (nar .char (13 : Int32)), (nar .char (10 : Int32))] (p1 &&& (3 : Int32)))))])) _
        refine XS.icmpYes X22.here hx rfl (pc0 := 50) (pc' := 57) rfl (hb hby at_50) rfl (feq hc24).2 (by decide) (by decide) ?_
        show Steps p.tables e below (T22.setTop (mkF m 57 _ [])) _
        refine XS.iconst X22.here hx rfl (hb hby at_57) ?_
        show Steps p.tables e below (T22.setTop (mkF m 58 #[.val (.int p1), .val (.int p2), .val (.ref b3), .val (.int (own_at [(nar .char (32 : Int32)), (nar .char (9 : Int32)), (nar .char (13 : Int32)), (nar .char (10 : Int32))] (p1 &&& (3 : Int32))))] [(.int (0 : Int32))])) _
        exact retN X22 hx (t := .boolean) Bd.returns (by simp) (hb hby at_58) hr
      · show Q0 Z p1 p2 h0 n0 _ T22.heap _
        rw [e22]
        exact ⟨congrArg (fun z => some (Value.int z)) (by rw [f0, if_neg hc13, if_neg hc24] : f0 p1 p2 = (0 : Int32)).symm, N22⟩
theorem own_small : ∀ n : Fin 64, f1 (Int32.ofNat n.val) = f2 (Int32.ofNat n.val) := by decide +kernel
theorem own_of (c : Int32) (n : Nat) (h : c.toInt = n) : c = Int32.ofNat n := by
  have h1 := rng32 c
  apply Int32.toInt_inj.mp
  rw [h, Int32.toInt_ofNat_small (by omega)]
theorem own_eq (c : Int32) (h0 : 0 ≤ c.toInt) : f1 c = f2 c := by
  by_cases h : c.toInt < 64
  · obtain ⟨n, hn⟩ := Int.eq_ofNat_of_zero_le h0
    have e := own_of c n hn
    have := own_small ⟨n, by omega⟩
    rw [e]; exact this
  · have k (d : Int32) (hd : d.toInt < 64) : ¬ c = d := fun q => by rw [q] at h; exact h hd
    have hlt : ¬ c < 64 := by rw [Int32.lt_iff_toInt_lt]; exact h
    unfold f1 f2
    rw [if_neg (k 32 (by decide)), if_neg (k 9 (by decide)), if_neg (k 13 (by decide)), if_neg (k 10 (by decide)), if_neg hlt]
theorem own_at4 (x : Int32) (a b c d : Int32) (ha : 0 ≤ a.toInt) (hb : 0 ≤ b.toInt) (hc : 0 ≤ c.toInt) (hd : 0 ≤ d.toInt) : 0 ≤ (own_at [a, b, c, d] x).toInt := by
  unfold own_at
  generalize x.toNatClampNeg = k
  match k with
  | 0 => exact ha
  | 1 => exact hb
  | 2 => exact hc
  | 3 => exact hd
  | n + 4 => exact (by decide : (0 : Int) ≤ (0 : Int32).toInt)
theorem own_plain (a b : Int32) : f0 a b = 1 := by
  unfold f0
  split
  · rw [if_pos (own_eq _ (c_i2c a).2.1)]
  · rw [if_pos (own_eq _ (own_at4 _ _ _ _ _ (by decide) (by decide) (by decide) (by decide)))]
set_option maxRecDepth 65536 in
set_option maxHeartbeats 40000000 in
theorem comes_1 {Post : Tables → Env → Array Value → State → Outcome → State → Prop} (hpost : ∀ tb e args s v u, (limb_1_1.after args s (.returned v) u = true ∧ limb_1_2.after args s (.returned v) u = true ∧ True) → FrameEnd s (.returned v) u (Jvm.fieldLocs frame_1_writes args s ++ Jvm.arrayLocs frame_1_arrays args s ++ Jvm.staticLocs frame_1_statics s) 16 128 → Post tb e args s (.returned v) u) :
    ArmFor flags0 classFile x code maxLocals ret World_1 tables_1 room_1 Calls_1 rest_1 Pre_1 Post := by
  intro l hfl _ _ p e ha hc hk s m args below hf hA hF happ hP
  obtain ⟨hcalls, hrest, hpre⟩ := hP
  obtain ⟨-, -, -, hnamed, -, -, -, hat⟩ := (Spec.applies_iff hf).mp happ
  obtain ⟨hg, hn⟩ := and_e (Cond.before_iff.mp (show (Jvm.Cond.and given_1 narrow_1).before args s = true from hpre))
  obtain ⟨gc, hg⟩ := and_e hg
  obtain ⟨gi0, hg⟩ := and_e hg
  obtain ⟨w0, w1, rfl⟩ : ∃ w0 w1 : Value, args = #[w0, w1] := by
    have hs : args.size = 2 := by simpa [Cond.value, given_1] using gc
    obtain ⟨L⟩ := args
    match L, hs with
    | [w0, w1], _ => exact ⟨w0, w1, rfl⟩
  have hw := fun d (hd : d ∈ tables_1) => atoms_spec (ws := Jvm.Cond.code x code maxLocals ret :: tables_1) hat d (List.mem_cons_of_mem _ hd)
  obtain ⟨i0, ei0⟩ := is_v gi0
  obtain rfl : w0 = (.int i0) := Option.some.inj ei0
  obtain ⟨i1, ei1⟩ := is_v hg
  obtain rfl : w1 = (.int i1) := Option.some.inj ei1
  obtain ⟨n, o, h1, h2, h3, vr, L, rfl, ⟨hvr, N⟩, hq⟩ := rm0 l s _ hw tables_1 i0 i1 s.heap s.heap.size (Nat.le_refl _)  p e ha hc hk s m _ below hf ((Spec.applies_iff_loose hf).mp happ).1 ⟨rfl, State.Warmed39.refl s, rfl⟩ trivial
  have hpl : f0 i0 i1 = 1 := own_plain i0 i1 
  rw [hpl] at hvr
  subst hvr
  refine ⟨n, _, h1, h2, h3, hpost _ _ _ _ _ _ ⟨Cond.after_iff.mpr rfl, Cond.after_iff.mpr (eq_i res_at (Term.int_eval (1)) rfl), trivial⟩ ⟨hq.1, hq.2.1, (hq.2.2.sift fun y hy => Or.inr (N y hy)).mono (by decide) (by decide)⟩⟩
theorem main_1_1 : Claimed_1_1 := comes_1 fun _ _ _ _ _ _ h hF => ⟨h.1, hF⟩
theorem main_1_2 : Claimed_1_2 := comes_1 fun _ _ _ _ _ _ h hF => ⟨h.2.1, hF⟩

end Jvm.Pilot.@@N@@
namespace Jvm.Pilot.@@N@@
open Jvm Jvm.ClassFile Sem Op Lib Jvm.Free Jvm.Stand Jvm.Pilot.@@N@@.Jvm.D
/-! MADE BY PROGRAM (witnessworld.py) out of the Statement's table words and the real class files: 11 classes; the members and pool entries that the words name. The judged class is class 1, her method 2. -/
namespace start1
open Jvm.ClassFile
def u (s : String) : CpInfo := .utf8 (stringToUtf16 s)
/-- a pool by its gaps: so many unusable entries, then the entry; so many at the end -/
def gap : Nat → List CpInfo → List CpInfo
  | 0, r => r
  | n + 1, r => .unusable :: gap n r
def poolList (es : List (Nat × CpInfo)) (last : Nat) : List CpInfo := es.foldr (fun e r => gap e.1 (e.2 :: r)) (gap last [])
def pool (es : List (Nat × CpInfo)) (last : Nat) : Array CpInfo := ⟨poolList es last⟩
def fileOf (pool : Array CpInfo) (this : Nat) (attrs : Array Attribute := #[]) (ms : Array MethodInfo := #[]) (fl : Nat := 33) (sup : Nat := 0) (ifs : Array Nat := #[]) (fds : Array FieldInfo := #[]) : ClassFile where
  minorVersion := 0
  majorVersion := 65
  constantPool := pool
  accessFlags := fl
  thisClass := this
  superClass := sup
  interfaces := ifs
  fields := fds
  methods := ms
  attributes := attrs
def plain (name : String) (sup : Option ClassId) : Class where
  name := name
  kind := .ordinary
  loader := none
  accessFlags := 33
  super := sup
  interfaces := #[]
  cf := none
  fields := #[]
  methods := #[]
  instanceTypes := #[]
  staticTypes := #[]
  resolved := #[]
  callSites := []
  init := .initialized
  statics := none
  mirror := none

def pool0 : Array CpInfo := pool [(5, u "<init>"), (0, u "()V"), (1, .class_ 10), (1, u "java/lang/Object")] 113

def k0m0 : Method := { name := "<init>", desc := "()V", sig := { parameters := [], returnType := none }, accessFlags := 1, code := none }
/-- java/lang/Object -/
def k0 : Class := { plain "java/lang/Object" none with
  accessFlags := 33
  interfaces := #[]
  cf := some (fileOf pool0 8 #[] #[{ accessFlags := 1, nameIndex := 5, descriptorIndex := 6, attributes := #[] }] 33 0 #[] #[])
  fields := #[]
  methods := #[k0m0]
  instanceTypes := #[]
  staticTypes := #[]
  resolved := Array.replicate 124 none
  statics := none }

def pool1 : Array CpInfo := pool [(2, .class_ 4), (1, u "java/lang/Object"), (0, u "<init>"), (0, u "()V"), (0, .class_ 8), (0, u "com/example/loadstone/loadstone/XmlIsSpacePinLaw"), (0, .long 4294977024), (1, .methodref 12 13), (0, .class_ 14), (0, .nameAndType 15 16), (0, u "com/example/loadstone/loadstone/Xml"), (0, u "isSpace"), (0, u "(C)Z"), (0, .methodref 7 18), (0, .nameAndType 19 16), (0, u "expected"), (0, u "MASK"), (0, u "J"), (4, u "law"), (0, u "(II)Z")] 4

def k1m0 : Method := { name := "<init>", desc := "()V", sig := { parameters := [], returnType := none }, accessFlags := 2, code := none }
def k1c1 : Code := { maxStack := 4, maxLocals := 1, code := method_2_code, exceptionTable := #[], attributes := #[] }
def k1m1 : Method := { name := "expected", desc := "(C)Z", sig := { parameters := [.char], returnType := some .boolean }, accessFlags := 10, code := some k1c1 }
def k1c2 : Code := { maxStack := 4, maxLocals := 4, code := code, exceptionTable := #[], attributes := #[] }
def k1m2 : Method := { name := "law", desc := "(II)Z", sig := { parameters := [.int, .int], returnType := some .boolean }, accessFlags := 9, code := some k1c2 }
/-- com/example/loadstone/loadstone/XmlIsSpacePinLaw -/
def k1 : Class := { plain "com/example/loadstone/loadstone/XmlIsSpacePinLaw" (some 0) with
  accessFlags := 49
  interfaces := #[]
  cf := some (fileOf pool1 7 #[] #[{ accessFlags := 2, nameIndex := 5, descriptorIndex := 6, attributes := #[] }, { accessFlags := 10, nameIndex := 19, descriptorIndex := 16, attributes := #[] }, { accessFlags := 9, nameIndex := 26, descriptorIndex := 27, attributes := #[] }] 49 2 #[] #[{ accessFlags := 26, nameIndex := 20, descriptorIndex := 21, attributes := #[] }])
  fields := #[{ name := "MASK", type := .long, accessFlags := 26, slot := 0, constantValue := 0 }]
  methods := #[k1m0, k1m1, k1m2]
  instanceTypes := #[]
  staticTypes := #[.long]
  resolved := Array.replicate 32 none
  statics := none }

def pool2 : Array CpInfo := pool [(2, .class_ 4), (1, u "java/lang/Object"), (0, u "<init>"), (0, u "()V"), (24, .class_ 32), (0, u "com/example/loadstone/loadstone/Xml"), (238, u "isSpace"), (96, u "(C)Z"), (0, u "NO_PARSER"), (0, u "Ljava/lang/String;")] 59

def k2m0 : Method := { name := "<init>", desc := "()V", sig := { parameters := [], returnType := none }, accessFlags := 2, code := none }
def k2c1 : Code := { maxStack := 2, maxLocals := 1, code := prog_97_method_15_code, exceptionTable := #[], attributes := #[] }
def k2m1 : Method := { name := "isSpace", desc := "(C)Z", sig := { parameters := [.char], returnType := some .boolean }, accessFlags := 8, code := some k2c1 }
/-- com/example/loadstone/loadstone/Xml -/
def k2 : Class := { plain "com/example/loadstone/loadstone/Xml" (some 0) with
  accessFlags := 48
  interfaces := #[]
  cf := some (fileOf pool2 31 #[] #[{ accessFlags := 2, nameIndex := 5, descriptorIndex := 6, attributes := #[] }, { accessFlags := 8, nameIndex := 271, descriptorIndex := 368, attributes := #[] }] 48 2 #[] #[{ accessFlags := 24, nameIndex := 369, descriptorIndex := 370, attributes := #[] }])
  fields := #[{ name := "NO_PARSER", type := (.object "java/lang/String"), accessFlags := 24, slot := 0, constantValue := 0 }]
  methods := #[k2m0, k2m1]
  instanceTypes := #[]
  staticTypes := #[(.object "java/lang/String")]
  resolved := Array.replicate 430 none
  statics := none }

def pool3 : Array CpInfo := pool [(1, u "java/lang/Cloneable"), (0, .class_ 1), (0, u "java/lang/Object"), (0, .class_ 3)] 3

/-- java/lang/Cloneable -/
def k3 : Class := { plain "java/lang/Cloneable" (some 0) with
  accessFlags := 1537
  interfaces := #[]
  cf := some (fileOf pool3 2 #[] #[] 1537 4 #[] #[])
  fields := #[]
  methods := #[]
  instanceTypes := #[]
  staticTypes := #[]
  resolved := Array.replicate 8 none
  statics := none }

def pool4 : Array CpInfo := pool [(1, u "java/io/Serializable"), (0, .class_ 1), (0, u "java/lang/Object"), (0, .class_ 3)] 3

/-- java/io/Serializable -/
def k4 : Class := { plain "java/io/Serializable" (some 0) with
  accessFlags := 1537
  interfaces := #[]
  cf := some (fileOf pool4 2 #[] #[] 1537 4 #[] #[])
  fields := #[]
  methods := #[]
  instanceTypes := #[]
  staticTypes := #[]
  resolved := Array.replicate 8 none
  statics := none }

/-- the primitive byte -/
def k5 : Class := { plain "byte" none with kind := .primitive 'B', accessFlags := 0x411 }
/-- [B -/
def k6 : Class := { plain "[B" (some 0) with kind := .array 5 .byte, interfaces := #[3, 4], accessFlags := 1041 }

/-- the primitive char -/
def k7 : Class := { plain "char" none with kind := .primitive 'C', accessFlags := 0x411 }
/-- [C -/
def k8 : Class := { plain "[C" (some 0) with kind := .array 7 .char, interfaces := #[3, 4], accessFlags := 1041 }

/-- the primitive int -/
def k9 : Class := { plain "int" none with kind := .primitive 'I', accessFlags := 0x411 }
/-- [I -/
def k10 : Class := { plain "[I" (some 0) with kind := .array 9 .int, interfaces := #[3, 4], accessFlags := 1041 }

def heap : Heap := #[]
def classes : Array Class := #[k0, k1, k2, k3, k4, k5, k6, k7, k8, k9, k10]
def interned : List (Array UInt16 × Addr) := []
def slotsUsed : Nat := 0
def theMethod : MethodId := ⟨1, 2⟩
def args0 : Array Value := #[.int 5, .int 7]
def aboutOver (below : List Frame) : State where
  vm := { classes := classes, interned := interned.toArray }
  heap := heap
  slotsUsed := slotsUsed
  threads := #[{ frames := .invoking theMethod args0 :: below }]
def below0 : List Frame := [.native { method := ⟨0, 0⟩, args := #[] }]
def about1 : State := aboutOver below0
def p0 : Program := .bare "" "" ""
def e0 : Env := launch0.env 0 0 0
theorem w_frames : about1.frames = Frame.invoking theMethod args0 :: below0 := rfl
set_option maxRecDepth 65536 in
theorem w_args : argsFit about1.vm theMethod args0 = true := by decide +kernel
set_option maxRecDepth 65536 in
theorem w_heap : heapFits about1 = true := by decide +kernel
set_option maxRecDepth 65536 in
theorem w_runnable : about1.curStatus? = some .runnable := by decide +kernel
set_option maxRecDepth 65536 in
theorem w_alone : about1.alone = true := by decide +kernel
set_option maxRecDepth 65536 in
theorem w_named : about1.methodNamed? x = some theMethod := by decide +kernel
set_option maxRecDepth 65536 in
theorem w_hears : about1.hears theMethod below0 = true := by decide +kernel
set_option maxRecDepth 65536 in
theorem w_ripe : about1.ripe theMethod args0 below0 = true := by decide +kernel
theorem w_running : about1.status = .running := rfl
set_option maxRecDepth 65536 in
theorem w_room : about1.hasRoom e0.platform room_1 = true :=
  launch0.hasRoom_least _ room_1 (by decide +kernel) (by decide +kernel) (by decide +kernel) (by decide +kernel) (by decide +kernel) (by decide +kernel)
theorem allAtoms_all (ts : List Jvm.Cond) (a : Array Jvm.Value) (st : Jvm.State) : (allAtoms ts).before a st = ts.all (fun c => c.before a st) := by
  induction ts with
  | nil => rfl
  | cons c t ih =>
    show (Jvm.Cond.and c (allAtoms t)).before a st = _
    rw [Jvm.Cond.before_and, ih, List.all_cons]
def words1 : List Jvm.Cond := Jvm.Cond.code x code maxLocals ret :: tables_1
/-- a 'code' word, met by the world's own term for the bytes: nothing is compared byte by byte -/
theorem code_word {y : MethodName} {bytes : ByteArray} {mx : Nat} {rt : Option FieldType} {a : Array Value} {s : State} {m : MethodId} {meth : Method} {c : Code} (h1 : s.methodNamed? y = some m) (h2 : s.vm.method? m = some meth) (h3 : meth.code = some c) (h4 : c.code = bytes)
    (h5 : (c.maxLocals == mx && c.exceptionTable.isEmpty && decide (c.maxStack ≤ mostOperands) && decide (meth.sig.returnType = rt) && !meth.locks && decide (parseMethodDescriptor y.desc = some meth.sig)) = true) : (Jvm.Cond.code y bytes mx rt).before a s = true := by
  simp only [Bool.and_eq_true, beq_iff_eq, Bool.not_eq_true', decide_eq_true_eq] at h5
  obtain ⟨⟨⟨⟨⟨g1, g2⟩, g3⟩, g4⟩, g5⟩, g6⟩ := h5
  simp [Cond.before, Cond.holds, Cond.value, h1, h2, h3, h4, g1, g2, g3, g4, g5, g6]
def isCode : Jvm.Cond → Bool
  | .code _ _ _ _ => true
  | _ => false
theorem all_split {L : List Jvm.Cond} {P : Jvm.Cond → Bool} (h1 : L.all (fun c => isCode c || P c) = true) (h2 : ∀ c ∈ L.filter isCode, P c = true) : L.all P = true := by
  refine List.all_eq_true.mpr fun c hc => ?_
  have h := List.all_eq_true.mp h1 c hc
  rcases Bool.eq_false_or_eq_true (isCode c) with hi | hi
  · exact h2 c (List.mem_filter.mpr ⟨hc, hi⟩)
  · simpa [hi] using h
set_option maxRecDepth 65536 in
theorem w_c0 : (Jvm.Cond.code x code maxLocals ret).before args0 about1 = true := code_word (m := ⟨1, 2⟩) (meth := k1m2) (c := k1c2) (by decide +kernel) rfl rfl rfl (by decide +kernel)
set_option maxRecDepth 65536 in
theorem w_c1 : (Jvm.Cond.code ({ cls := "com/example/loadstone/loadstone/Xml", name := "isSpace", desc := "(C)Z" } : Jvm.MethodName) prog_97_method_15_code (1 : Nat) (Option.some Jvm.ClassFile.FieldType.boolean)).before args0 about1 = true := code_word (m := ⟨2, 1⟩) (meth := k2m1) (c := k2c1) (by decide +kernel) rfl rfl rfl (by decide +kernel)
set_option maxRecDepth 65536 in
theorem w_c2 : (Jvm.Cond.code ({ cls := "com/example/loadstone/loadstone/XmlIsSpacePinLaw", name := "expected", desc := "(C)Z" } : Jvm.MethodName) method_2_code (1 : Nat) (Option.some Jvm.ClassFile.FieldType.boolean)).before args0 about1 = true := code_word (m := ⟨1, 1⟩) (meth := k1m1) (c := k1c1) (by decide +kernel) rfl rfl rfl (by decide +kernel)
def codes1 : List Jvm.Cond := [Jvm.Cond.code x code maxLocals ret, Jvm.Cond.code ({ cls := "com/example/loadstone/loadstone/Xml", name := "isSpace", desc := "(C)Z" } : Jvm.MethodName) prog_97_method_15_code (1 : Nat) (Option.some Jvm.ClassFile.FieldType.boolean), Jvm.Cond.code ({ cls := "com/example/loadstone/loadstone/XmlIsSpacePinLaw", name := "expected", desc := "(C)Z" } : Jvm.MethodName) method_2_code (1 : Nat) (Option.some Jvm.ClassFile.FieldType.boolean)]
set_option maxRecDepth 65536 in
theorem codes_eq : words1.filter isCode = codes1 := rfl
theorem w_codes : ∀ c ∈ words1.filter isCode, c.before args0 about1 = true := by
  rw [codes_eq]
  intro c hc
  simp only [codes1, List.mem_cons, List.not_mem_nil, or_false] at hc
  rcases hc with rfl | rfl | rfl
  · exact w_c0
  · exact w_c1
  · exact w_c2
set_option maxRecDepth 65536 in
theorem w_t1 : words1.all (fun c => isCode c || c.before args0 about1) = true := by decide +kernel
theorem w_tables : (allAtoms (Jvm.Cond.code x code maxLocals ret :: tables_1)).before args0 about1 = true := by
  rw [allAtoms_all]
  show words1.all (fun c => c.before args0 about1) = true
  refine all_split ?_ w_codes
  rw [w_t1]
set_option maxRecDepth 65536 in
theorem w_case : (Jvm.Cond.and given_1 narrow_1).before args0 about1 = true := by decide +kernel
theorem w_applies : (headSpec (Jvm.Cond.code x code maxLocals ret :: tables_1) room_1).applies x e0.platform about1 = true :=
  (Spec.applies_iff w_frames).mpr ⟨w_running, w_runnable, w_alone, w_named, w_hears, w_ripe, w_room, w_tables⟩
theorem atStart : AtStart classFile x code maxLocals ret World_1 tables_1 room_1 Calls_1 rest_1 Pre_1 launch0 p0 e0 about1 theMethod args0 below0 :=
  ⟨lists_1, trivial, launch0.admits_env _ _ _, launch0.least_env, fairChoices_fair.cas, fairChoices_fair.clock, w_frames, w_args, w_heap, w_applies, trivial, trivial, w_case⟩
end start1
theorem witness_1 : WitnessClaimed_1 := ⟨start1.p0, start1.e0, start1.about1, start1.theMethod, start1.args0, start1.below0, start1.atStart⟩
end Jvm.Pilot.@@N@@
