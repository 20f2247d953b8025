import JvmDerived
import JvmDerived.Pilot.@@N@@Statement
import JvmDerived.Pilot.@@N@@Code
set_option linter.unusedVariables false
set_option linter.unusedSimpArgs false
@@BLOCK:NumsL.lean.txt@@
namespace Jvm.RoadKit
open Sem ClassFile Op Lib Jvm.Stand Jvm.Free Jvm.LawKit
section New
variable {p : Program} {l : Launch} {e : Env} {R : Room} {s : State} {m : MethodId} {args : Array Value} {below : List Frame} {meth : Method} {c : Code} {T : State} {locs : List Loc} {cells slots : Nat}
theorem retI (X : Stand p l e R s m args below meth c T locs cells slots) (hx : p.tables.exec = Jvm.exec) {pc : Nat} {Ls : Array Slot} {z : Int32} {rest : List Value} (hret : meth.sig.returnType = some .int) (hd : decode c.code pc = .ok (.ireturn, 1)) {fs : List Frame}
    (hl : ∀ (f : JFrame) (acts : List Action), f.method = m → f.locked = none → f.entered = [] → (doReturn e (T.setTop f) acts (some (.int z))).1 = T.setFrames fs) : Steps p.tables e below (T.setTop (mkF m pc Ls (.int z :: rest))) (T.setFrames fs) := by
  have hm' : T.vm.method? m = some meth := X.method'
  have hn : narrow .int (.int z) = .int z := rfl
  show Steps p.tables e below (T.setTop { method := m, pc := pc, locals := Ls, stack := _ :: rest, locked := none }) _
  jvm_step X.here [X.here.top, hx, hd, hm', hret, hn]
  first | (intro acts; rw [hl _ acts rfl rfl rfl]) | rw [hl _ _ rfl rfl rfl]
  exact Steps.refl _
end New
end Jvm.RoadKit
namespace Jvm.Pilot.@@N@@
open Jvm Jvm.ClassFile Sem Op Lib Jvm.Free Jvm.Stand Jvm.LawKit Jvm.RoadKit Bundle Jvm.Pilot.@@N@@.Jvm.D
theorem own_nz_J {x : Int64} (h : (0 : Int64) < x) : ¬ (x = (0 : Int64)) := by rintro rfl; exact absurd h (by decide)
theorem own_nz_I {x : Int32} (h : (0 : Int32) < x) : ¬ (x = (0 : Int32)) := by rintro rfl; exact absurd h (by decide)
theorem own_fld {s : State} {args : Array Value} {tt : Term} {a : Addr} {C n d : String} {k : Int32} (ev : tt.eval args s none [] s = some (.ref a)) (h : (Jvm.Cond.eq (.field tt C n d) (.int k)).value args s none s [] = some true) : Fld s s.heap a C n d (.int k) := by
  obtain ⟨u, v, hu, hv, k1, k2⟩ := cmp_v (Or.inl h)
  have hv' : v = .int k := (Option.some.inj (hv.symm.trans (Term.int_eval k)))
  subst hv'
  obtain ⟨z, rfl⟩ := k2
  have hz := gotT (Cond.eq_ints hu hv) h
  subst hz
  exact Fld.start (by rw [← fld_at ev]; exact hu)
def own_at (vs : List Int32) (j : Int32) : Int32 := vs.getD j.toNatClampNeg 0
def own_atL (vs : List Int64) (j : Int32) : Int64 := vs.getD j.toNatClampNeg 0
theorem own_getD (vs : List Int32) (j : Int32) : (vs.map Value.int).getD j.toNatClampNeg (.int (0 : Int32)) = .int (own_at vs j) := by
  unfold own_at
  generalize j.toNatClampNeg = k
  induction vs generalizing k with
  | nil => rfl
  | cons a t ih => cases k with
    | zero => rfl
    | succ k => simpa using ih k
theorem own_getDL (vs : List Int64) (j : Int32) : (vs.map Value.long).getD j.toNatClampNeg (.long (0 : Int64)) = .long (own_atL vs j) := by
  unfold own_atL
  generalize j.toNatClampNeg = k
  induction vs generalizing k with
  | nil => rfl
  | cons a t ih => cases k with
    | zero => rfl
    | succ k => simpa using ih k
def own_part (q1 : Int64) : Int64 := (q1 &&& (9223372036854775807 : Int64)) - ((q1 &&& (9223372036854775807 : Int64)) / (922337203685478 : Int64)) * (922337203685478 : Int64)
def own_w2 (q2 : Int64) : Int64 := (q2 &&& (9223372036854775807 : Int64)) - ((q2 &&& (9223372036854775807 : Int64)) / (40001 : Int64)) * (40001 : Int64)
def own_w3 (q1 q2 : Int64) : Int64 := ((q2 &&& (9223372036854775807 : Int64)) - ((q2 &&& (9223372036854775807 : Int64)) / (((own_part q1) * (10000 : Int64)) + (1 : Int64))) * (((own_part q1) * (10000 : Int64)) + (1 : Int64))) + (1 : Int64)
theorem own_partr (q1 : Int64) : 0 ≤ (own_part q1).toInt ∧ (own_part q1).toInt ≤ 922337203685477 := by
  have h1 := c_maskL q1 9223372036854775807 63 (by decide) (by decide)
  have h2 := (c_lrem (q1 &&& 9223372036854775807) 922337203685478 922337203685478 (by decide)).1 (by omega)
  unfold own_part
  rw [h2]
  omega
theorem own_nz80 (q1 : Int64) : ¬ (((own_part q1) * (10000 : Int64)) + (1 : Int64) = (0 : Int64)) := fun q => by
  have h0 := own_partr q1
  have h1 := c_lmul (own_part q1) 10000
  have h2 := c_ladd ((own_part q1) * 10000) 1
  have k1 : (10000 : Int64).toInt = 10000 := by decide
  have k2 : (1 : Int64).toInt = 1 := by decide
  have k3 : (0 : Int64).toInt = 0 := by decide
  rw [q] at h2
  have h3 := rng64 ((own_part q1) * 10000)
  rw [k1] at h1
  omega
theorem d1_0 : decode prog_76_method_12_code 0 = .ok (.lload_n 0, 1) := by decide +kernel
theorem d1_1 : decode prog_76_method_12_code 1 = .ok (.lconst 0, 1) := by decide +kernel
theorem d1_2 : decode prog_76_method_12_code 2 = .ok (.lcmp, 1) := by decide +kernel
theorem d1_3 : decode prog_76_method_12_code 3 = .ok (.ifCond .lt 17, 3) := by decide +kernel
theorem d1_6 : decode prog_76_method_12_code 6 = .ok (.lload_n 0, 1) := by decide +kernel
theorem d1_7 : decode prog_76_method_12_code 7 = .ok (.ldc2_w 99, 3) := by decide +kernel
theorem d1_10 : decode prog_76_method_12_code 10 = .ok (.lcmp, 1) := by decide +kernel
theorem d1_11 : decode prog_76_method_12_code 11 = .ok (.ifCond .gt 9, 3) := by decide +kernel
theorem d1_14 : decode prog_76_method_12_code 14 = .ok (.lload_n 2, 1) := by decide +kernel
theorem d1_15 : decode prog_76_method_12_code 15 = .ok (.lconst 0, 1) := by decide +kernel
theorem d1_16 : decode prog_76_method_12_code 16 = .ok (.lcmp, 1) := by decide +kernel
theorem d1_17 : decode prog_76_method_12_code 17 = .ok (.ifCond .gt 7, 3) := by decide +kernel
theorem d1_20 : decode prog_76_method_12_code 20 = .ok (.ldc2_w 59, 3) := by decide +kernel
theorem d1_23 : decode prog_76_method_12_code 23 = .ok (.lreturn, 1) := by decide +kernel
theorem d1_24 : decode prog_76_method_12_code 24 = .ok (.lload_n 0, 1) := by decide +kernel
theorem d1_25 : decode prog_76_method_12_code 25 = .ok (.ldc2_w 101, 3) := by decide +kernel
theorem d1_28 : decode prog_76_method_12_code 28 = .ok (.lmul, 1) := by decide +kernel
theorem d1_29 : decode prog_76_method_12_code 29 = .ok (.lstore 4, 2) := by decide +kernel
theorem d1_31 : decode prog_76_method_12_code 31 = .ok (.lload 4, 2) := by decide +kernel
theorem d1_33 : decode prog_76_method_12_code 33 = .ok (.lload_n 2, 1) := by decide +kernel
theorem d1_34 : decode prog_76_method_12_code 34 = .ok (.lrem, 1) := by decide +kernel
theorem d1_35 : decode prog_76_method_12_code 35 = .ok (.lstore 6, 2) := by decide +kernel
theorem d1_37 : decode prog_76_method_12_code 37 = .ok (.lload 4, 2) := by decide +kernel
theorem d1_39 : decode prog_76_method_12_code 39 = .ok (.lload_n 2, 1) := by decide +kernel
theorem d1_40 : decode prog_76_method_12_code 40 = .ok (.ldiv, 1) := by decide +kernel
theorem d1_41 : decode prog_76_method_12_code 41 = .ok (.lload 6, 2) := by decide +kernel
theorem d1_43 : decode prog_76_method_12_code 43 = .ok (.lload_n 2, 1) := by decide +kernel
theorem d1_44 : decode prog_76_method_12_code 44 = .ok (.lload 6, 2) := by decide +kernel
theorem d1_46 : decode prog_76_method_12_code 46 = .ok (.lsub, 1) := by decide +kernel
theorem d1_47 : decode prog_76_method_12_code 47 = .ok (.lcmp, 1) := by decide +kernel
theorem d1_48 : decode prog_76_method_12_code 48 = .ok (.ifCond .lt 7, 3) := by decide +kernel
theorem d1_51 : decode prog_76_method_12_code 51 = .ok (.iconst 1, 1) := by decide +kernel
theorem d1_52 : decode prog_76_method_12_code 52 = .ok (.goto 4, 3) := by decide +kernel
theorem d1_55 : decode prog_76_method_12_code 55 = .ok (.iconst 0, 1) := by decide +kernel
theorem d1_56 : decode prog_76_method_12_code 56 = .ok (.i2l, 1) := by decide +kernel
theorem d1_57 : decode prog_76_method_12_code 57 = .ok (.ladd, 1) := by decide +kernel
theorem d1_58 : decode prog_76_method_12_code 58 = .ok (.lreturn, 1) := by decide +kernel
theorem pn_1 : plainName "com/example/creditree/creditree/Money" = true := by first | (simp [plainName, overriddenIn]; done) | decide +kernel
theorem ef_1 (m : MethodId) (x0 : Int64) (x1 : Int64) : entryFrame m #[(.long x0), (.long x1)] 8 = mkF m 0 #[.val (.long x0), .second, .val (.long x1), .second, .unset, .unset, .unset, .unset] [] := by first | (simp [entryFrame, mkF, argsToLocals, Value.category]; done) | rfl
def f1 (q1 : Int64) (q2 : Int64) : Int64 := (if q1 < (0 : Int64) then (-9223372036854775808 : Int64) else (if (922337203685477 : Int64) < q1 then (-9223372036854775808 : Int64) else (if (0 : Int64) < q2 then (if ((q1 * (10000 : Int64)) - ((q1 * (10000 : Int64)) / q2) * q2) < (q2 - ((q1 * (10000 : Int64)) - ((q1 * (10000 : Int64)) / q2) * q2)) then (((q1 * (10000 : Int64)) / q2) + ((0 : Int32).toInt64)) else (((q1 * (10000 : Int64)) / q2) + ((1 : Int32).toInt64))) else (-9223372036854775808 : Int64))))
def Q1 (Z : State) (q1 : Int64) (q2 : Int64) (h0 : Heap) (n0 : Nat) (v : Option Value) (h : Heap) (L : List Loc) : Prop := v = some (.long (f1 q1 q2)) ∧ Fr n0 L ∧ h = h0
set_option maxRecDepth 65536 in
set_option maxHeartbeats 40000000 in
theorem rm1 (l : Launch) (Z : State) (a0 : Array Value) (hw : ∀ d ∈ tables_1, d.before a0 Z = true) (ws : List Jvm.Cond) (q1 : Int64) (q2 : Int64) (h0 : Heap) (n0 : Nat) (Z0 : n0 ≤ h0.size) :
    MetFree l (⟨"com/example/creditree/creditree/Money", "percentInHundredths", "(JJ)J"⟩ : MethodName) (head1 (Jvm.Cond.code (⟨"com/example/creditree/creditree/Money", "percentInHundredths", "(JJ)J"⟩ : MethodName) prog_76_method_12_code 8 (some .long) :: ws) ({ frames := 0, cells := 0, slots := 0, locals := 0 } : Room)) (fun a U => a = #[(.long q1), (.long q2)] ∧ Z.Warmed39 U.vm ∧ U.heap = h0) (fun _ _ _ _ _ => True) (fun _ U o U' => ∃ v L, o = .returned v ∧ Q1 Z q1 q2 h0 n0 v U'.heap L ∧ FrameEnd U o U' L ({ frames := 0, cells := 0, slots := 0, locals := 0 } : Room).cells ({ frames := 0, cells := 0, slots := 0, locals := 0 } : Room).slots) := by
  refine MetFree.of_bodySF (plainFor_of_name pn_1) hisR ?_
  intro p e s m args below meth c s₁ Bd hml0 hP hK
  obtain ⟨rfl, hZ, hh⟩ := hP
  have hx := Bd.exec
  have hby := Bd.bytes
  have hml : c.maxLocals = 8 := hml0
  have hown : s.vm.findClass "com/example/creditree/creditree/Money" = some m.cls := findClass_of_methodNamed Bd.named
  have hnm := (name_of_methodNamed Bd.named Bd.method).1
  have X0 : Stand p l e ({ frames := 0, cells := 0, slots := 0, locals := 0 } : Room) s m #[(.long q1), (.long q2)] below meth c s₁ [] 0 0 := Stand.of_body Bd
  have e0 : s₁.heap = h0 := by rw [← hh, Bd.state]; rfl
  have N0 := Fr.nil n0
  have pre0 : ∀ t, Steps p.tables e below (s₁.setTop (mkF m 0 #[.val (.long q1), .second, .val (.long q2), .second, .unset, .unset, .unset, .unset] [])) t → Steps p.tables e below (s₁.setTop (entryFrame m #[(.long q1), (.long q2)] 8)) t := fun t k => castTop (ef_1 m q1 q2) k
  have pre3 : ∀ t, Steps p.tables e below (s₁.setTop (mkF m 3 #[.val (.long q1), .second, .val (.long q2), .second, .unset, .unset, .unset, .unset] [(.int (lcmpW q1 (0 : Int64)))])) t → Steps p.tables e below (s₁.setTop (entryFrame m #[(.long q1), (.long q2)] 8)) t := fun t kt => by
    refine pre0 _ ?_
    show Steps p.tables e below (s₁.setTop (mkF m 0 #[.val (.long q1), .second, .val (.long q2), .second, .unset, .unset, .unset, .unset] [])) _
    refine XS.lloadN X0.here hx rfl (hb hby d1_0) rfl ?_
    show Steps p.tables e below (s₁.setTop (mkF m 1 _ [(.long q1)])) _
    refine XS.lconst X0.here hx rfl (hb hby d1_1) ?_
    show Steps p.tables e below (s₁.setTop (mkF m 2 _ [(.long (0 : Int64)), (.long q1)])) _
    refine XS.lcmp X0.here hx rfl (hb hby d1_2) rfl ?_
    exact kt
  by_cases hc4 : q1 < (0 : Int64)
  · skip
    obtain ⟨fs, hr, hrun, hended, hW, hsame⟩ := X0.leave (v := some (.long (-9223372036854775808 : Int64))) (fun h => by rw [Bd.returns] at h; cases h) (by first | exact BodyLoose.notSynchronized Bd | exact Body.notSynchronized Bd)
    refine ⟨_, _, pre3 _ ?_, hrun, hended, _, _, rfl, ?_, ⟨_, rfl⟩, hW, hsame.mono (by decide) (by decide)⟩
    · show Steps p.tables e below (s₁.setTop (mkF m 3 #[.val (.long q1), .second, .val (.long q2), .second, .unset, .unset, .unset, .unset] [(.int (lcmpW q1 (0 : Int64)))])) _
      refine XS.ifYes X0.here hx rfl (pc0 := 3) (pc' := 20) rfl (hb hby d1_3) rfl ((if0 _ _).trans (tlt ((lw_lt _ _).mpr hc4)).1) (by decide) (by decide) ?_
      show Steps p.tables e below (s₁.setTop (mkF m 20 _ [])) _
      refine X0.ldc2Long hx hown (mvT hZ (hw _ (List.mem_of_getElem? (i := 14) rfl))) (g := (mkF m 20 #[.val (.long q1), .second, .val (.long q2), .second, .unset, .unset, .unset, .unset] [])) rfl (hb hby d1_20) _ ?_
      show Steps p.tables e below (s₁.setTop (mkF m 23 #[.val (.long q1), .second, .val (.long q2), .second, .unset, .unset, .unset, .unset] [(.long (-9223372036854775808 : Int64))])) _
      exact X0.lreturnOut hx Bd.returns (hb hby d1_23) hr
    · show Q1 Z q1 q2 h0 n0 _ s₁.heap _
      rw [e0]
      exact ⟨congrArg (fun z => some (Value.long z)) (by rw [f1, if_pos hc4] : f1 q1 q2 = (-9223372036854775808 : Int64)).symm, N0, rfl⟩
  · skip
    have pre5 : ∀ t, Steps p.tables e below (s₁.setTop (mkF m 11 #[.val (.long q1), .second, .val (.long q2), .second, .unset, .unset, .unset, .unset] [(.int (lcmpW q1 (922337203685477 : Int64)))])) t → Steps p.tables e below (s₁.setTop (entryFrame m #[(.long q1), (.long q2)] 8)) t := fun t kt => by
      refine pre3 _ ?_
      show Steps p.tables e below (s₁.setTop (mkF m 3 #[.val (.long q1), .second, .val (.long q2), .second, .unset, .unset, .unset, .unset] [(.int (lcmpW q1 (0 : Int64)))])) _
      refine XS.ifNo X0.here hx rfl (hb hby d1_3) rfl ((if0 _ _).trans (flt (mt (lw_lt _ _).mp hc4)).1) ?_
      show Steps p.tables e below (s₁.setTop (mkF m 6 _ [])) _
      refine XS.lloadN X0.here hx rfl (hb hby d1_6) rfl ?_
      show Steps p.tables e below (s₁.setTop (mkF m 7 _ [(.long q1)])) _
      refine X0.ldc2Long hx hown (mvT hZ (hw _ (List.mem_of_getElem? (i := 4) rfl))) (g := (mkF m 7 #[.val (.long q1), .second, .val (.long q2), .second, .unset, .unset, .unset, .unset] [(.long q1)])) rfl (hb hby d1_7) _ ?_
      show Steps p.tables e below (s₁.setTop (mkF m 10 _ [(.long (922337203685477 : Int64)), (.long q1)])) _
      refine XS.lcmp X0.here hx rfl (hb hby d1_10) rfl ?_
      exact kt
    by_cases hc6 : (922337203685477 : Int64) < q1
    · skip
      obtain ⟨fs, hr, hrun, hended, hW, hsame⟩ := X0.leave (v := some (.long (-9223372036854775808 : Int64))) (fun h => by rw [Bd.returns] at h; cases h) (by first | exact BodyLoose.notSynchronized Bd | exact Body.notSynchronized Bd)
      refine ⟨_, _, pre5 _ ?_, hrun, hended, _, _, rfl, ?_, ⟨_, rfl⟩, hW, hsame.mono (by decide) (by decide)⟩
      · show Steps p.tables e below (s₁.setTop (mkF m 11 #[.val (.long q1), .second, .val (.long q2), .second, .unset, .unset, .unset, .unset] [(.int (lcmpW q1 (922337203685477 : Int64)))])) _
        refine XS.ifYes X0.here hx rfl (pc0 := 11) (pc' := 20) rfl (hb hby d1_11) rfl ((if0 _ _).trans (tlt ((lw_gt _ _).mpr hc6)).2.2.1) (by decide) (by decide) ?_
        show Steps p.tables e below (s₁.setTop (mkF m 20 _ [])) _
        refine X0.ldc2Long hx hown (mvT hZ (hw _ (List.mem_of_getElem? (i := 14) rfl))) (g := (mkF m 20 #[.val (.long q1), .second, .val (.long q2), .second, .unset, .unset, .unset, .unset] [])) rfl (hb hby d1_20) _ ?_
        show Steps p.tables e below (s₁.setTop (mkF m 23 #[.val (.long q1), .second, .val (.long q2), .second, .unset, .unset, .unset, .unset] [(.long (-9223372036854775808 : Int64))])) _
        exact X0.lreturnOut hx Bd.returns (hb hby d1_23) hr
      · show Q1 Z q1 q2 h0 n0 _ s₁.heap _
        rw [e0]
        exact ⟨congrArg (fun z => some (Value.long z)) (by rw [f1, if_neg hc4, if_pos hc6] : f1 q1 q2 = (-9223372036854775808 : Int64)).symm, N0, rfl⟩
    · skip
      have pre7 : ∀ t, Steps p.tables e below (s₁.setTop (mkF m 17 #[.val (.long q1), .second, .val (.long q2), .second, .unset, .unset, .unset, .unset] [(.int (lcmpW q2 (0 : Int64)))])) t → Steps p.tables e below (s₁.setTop (entryFrame m #[(.long q1), (.long q2)] 8)) t := fun t kt => by
        refine pre5 _ ?_
        show Steps p.tables e below (s₁.setTop (mkF m 11 #[.val (.long q1), .second, .val (.long q2), .second, .unset, .unset, .unset, .unset] [(.int (lcmpW q1 (922337203685477 : Int64)))])) _
        refine XS.ifNo X0.here hx rfl (hb hby d1_11) rfl ((if0 _ _).trans (flt (mt (lw_gt _ _).mp hc6)).2.2.1) ?_
        show Steps p.tables e below (s₁.setTop (mkF m 14 _ [])) _
        refine XS.lloadN X0.here hx rfl (hb hby d1_14) rfl ?_
        show Steps p.tables e below (s₁.setTop (mkF m 15 _ [(.long q2)])) _
        refine XS.lconst X0.here hx rfl (hb hby d1_15) ?_
        show Steps p.tables e below (s₁.setTop (mkF m 16 _ [(.long (0 : Int64)), (.long q2)])) _
        refine XS.lcmp X0.here hx rfl (hb hby d1_16) rfl ?_
        exact kt
      by_cases hc8 : (0 : Int64) < q2
      · skip
        have pre9 : ∀ t, Steps p.tables e below (s₁.setTop (mkF m 48 #[.val (.long q1), .second, .val (.long q2), .second, .val (.long (q1 * (10000 : Int64))), .second, .val (.long ((q1 * (10000 : Int64)) - ((q1 * (10000 : Int64)) / q2) * q2)), .second] [(.int (lcmpW ((q1 * (10000 : Int64)) - ((q1 * (10000 : Int64)) / q2) * q2) (q2 - ((q1 * (10000 : Int64)) - ((q1 * (10000 : Int64)) / q2) * q2)))), (.long ((q1 * (10000 : Int64)) / q2))])) t → Steps p.tables e below (s₁.setTop (entryFrame m #[(.long q1), (.long q2)] 8)) t := fun t kt => by
          refine pre7 _ ?_
          show Steps p.tables e below (s₁.setTop (mkF m 17 #[.val (.long q1), .second, .val (.long q2), .second, .unset, .unset, .unset, .unset] [(.int (lcmpW q2 (0 : Int64)))])) _
          refine XS.ifYes X0.here hx rfl (pc0 := 17) (pc' := 24) rfl (hb hby d1_17) rfl ((if0 _ _).trans (tlt ((lw_gt _ _).mpr hc8)).2.2.1) (by decide) (by decide) ?_
          show Steps p.tables e below (s₁.setTop (mkF m 24 _ [])) _
          refine XS.lloadN X0.here hx rfl (hb hby d1_24) rfl ?_
          show Steps p.tables e below (s₁.setTop (mkF m 25 _ [(.long q1)])) _
          refine X0.ldc2Long hx hown (mvT hZ (hw _ (List.mem_of_getElem? (i := 5) rfl))) (g := (mkF m 25 #[.val (.long q1), .second, .val (.long q2), .second, .unset, .unset, .unset, .unset] [(.long q1)])) rfl (hb hby d1_25) _ ?_
          show Steps p.tables e below (s₁.setTop (mkF m 28 _ [(.long (10000 : Int64)), (.long q1)])) _
          refine XS.lmul X0.here hx rfl (hb hby d1_28) rfl ?_
          show Steps p.tables e below (s₁.setTop (mkF m 29 _ [(.long (q1 * (10000 : Int64)))])) _
          refine XS.lstore X0.here hx rfl (hb hby d1_29) rfl (l' := #[.val (.long q1), .second, .val (.long q2), .second, .val (.long (q1 * (10000 : Int64))), .second, .unset, .unset]) rfl ?_
          show Steps p.tables e below (s₁.setTop (mkF m 31 _ [])) _
          refine XS.lload X0.here hx rfl (hb hby d1_31) rfl ?_
          show Steps p.tables e below (s₁.setTop (mkF m 33 _ [(.long (q1 * (10000 : Int64)))])) _
          refine XS.lloadN X0.here hx rfl (hb hby d1_33) rfl ?_
          show Steps p.tables e below (s₁.setTop (mkF m 34 _ [(.long q2), (.long (q1 * (10000 : Int64)))])) _
          refine XS.lrem X0.here hx rfl (hb hby d1_34) rfl (own_nz_J hc8) ?_
          show Steps p.tables e below (s₁.setTop (mkF m 35 _ [(.long ((q1 * (10000 : Int64)) - ((q1 * (10000 : Int64)) / q2) * q2))])) _
          refine XS.lstore X0.here hx rfl (hb hby d1_35) rfl (l' := #[.val (.long q1), .second, .val (.long q2), .second, .val (.long (q1 * (10000 : Int64))), .second, .val (.long ((q1 * (10000 : Int64)) - ((q1 * (10000 : Int64)) / q2) * q2)), .second]) rfl ?_
          show Steps p.tables e below (s₁.setTop (mkF m 37 _ [])) _
          refine XS.lload X0.here hx rfl (hb hby d1_37) rfl ?_
          show Steps p.tables e below (s₁.setTop (mkF m 39 _ [(.long (q1 * (10000 : Int64)))])) _
          refine XS.lloadN X0.here hx rfl (hb hby d1_39) rfl ?_
          show Steps p.tables e below (s₁.setTop (mkF m 40 _ [(.long q2), (.long (q1 * (10000 : Int64)))])) _
          refine XS.ldiv X0.here hx rfl (hb hby d1_40) rfl (own_nz_J hc8) ?_
          show Steps p.tables e below (s₁.setTop (mkF m 41 _ [(.long ((q1 * (10000 : Int64)) / q2))])) _
          refine XS.lload X0.here hx rfl (hb hby d1_41) rfl ?_
          show Steps p.tables e below (s₁.setTop (mkF m 43 _ [(.long ((q1 * (10000 : Int64)) - ((q1 * (10000 : Int64)) / q2) * q2)), (.long ((q1 * (10000 : Int64)) / q2))])) _
          refine XS.lloadN X0.here hx rfl (hb hby d1_43) rfl ?_
          show Steps p.tables e below (s₁.setTop (mkF m 44 _ [(.long q2), (.long ((q1 * (10000 : Int64)) - ((q1 * (10000 : Int64)) / q2) * q2)), (.long ((q1 * (10000 : Int64)) / q2))])) _
          refine XS.lload X0.here hx rfl (hb hby d1_44) rfl ?_
          show Steps p.tables e below (s₁.setTop (mkF m 46 _ [(.long ((q1 * (10000 : Int64)) - ((q1 * (10000 : Int64)) / q2) * q2)), (.long q2), (.long ((q1 * (10000 : Int64)) - ((q1 * (10000 : Int64)) / q2) * q2)), (.long ((q1 * (10000 : Int64)) / q2))])) _
          refine XS.lsub X0.here hx rfl (hb hby d1_46) rfl ?_
          show Steps p.tables e below (s₁.setTop (mkF m 47 _ [(.long (q2 - ((q1 * (10000 : Int64)) - ((q1 * (10000 : Int64)) / q2) * q2))), (.long ((q1 * (10000 : Int64)) - ((q1 * (10000 : Int64)) / q2) * q2)), (.long ((q1 * (10000 : Int64)) / q2))])) _
          refine XS.lcmp X0.here hx rfl (hb hby d1_47) rfl ?_
          exact kt
        by_cases hc10 : ((q1 * (10000 : Int64)) - ((q1 * (10000 : Int64)) / q2) * q2) < (q2 - ((q1 * (10000 : Int64)) - ((q1 * (10000 : Int64)) / q2) * q2))
        · skip
          obtain ⟨fs, hr, hrun, hended, hW, hsame⟩ := X0.leave (v := some (.long (((q1 * (10000 : Int64)) / q2) + ((0 : Int32).toInt64)))) (fun h => by rw [Bd.returns] at h; cases h) (by first | exact BodyLoose.notSynchronized Bd | exact Body.notSynchronized Bd)
          refine ⟨_, _, pre9 _ ?_, hrun, hended, _, _, rfl, ?_, ⟨_, rfl⟩, hW, hsame.mono (by decide) (by decide)⟩
          · show Steps p.tables e below (s₁.setTop (mkF m 48 #[.val (.long q1), .second, .val (.long q2), .second, .val (.long (q1 * (10000 : Int64))), .second, .val (.long ((q1 * (10000 : Int64)) - ((q1 * (10000 : Int64)) / q2) * q2)), .second] [(.int (lcmpW ((q1 * (10000 : Int64)) - ((q1 * (10000 : Int64)) / q2) * q2) (q2 - ((q1 * (10000 : Int64)) - ((q1 * (10000 : Int64)) / q2) * q2)))), (.long ((q1 * (10000 : Int64)) / q2))])) _
            refine XS.ifYes X0.here hx rfl (pc0 := 48) (pc' := 55) rfl (hb hby d1_48) rfl ((if0 _ _).trans (tlt ((lw_lt _ _).mpr hc10)).1) (by decide) (by decide) ?_
            show Steps p.tables e below (s₁.setTop (mkF m 55 _ [(.long ((q1 * (10000 : Int64)) / q2))])) _
            refine XS.iconst X0.here hx rfl (hb hby d1_55) ?_
            show Steps p.tables e below (s₁.setTop (mkF m 56 _ [(.int (0 : Int32)), (.long ((q1 * (10000 : Int64)) / q2))])) _
            refine XS.i2l X0.here hx rfl (hb hby d1_56) rfl ?_
            show Steps p.tables e below (s₁.setTop (mkF m 57 _ [(.long ((0 : Int32).toInt64)), (.long ((q1 * (10000 : Int64)) / q2))])) _
            refine XS.ladd X0.here hx rfl (hb hby d1_57) rfl ?_
            show Steps p.tables e below (s₁.setTop (mkF m 58 #[.val (.long q1), .second, .val (.long q2), .second, .val (.long (q1 * (10000 : Int64))), .second, .val (.long ((q1 * (10000 : Int64)) - ((q1 * (10000 : Int64)) / q2) * q2)), .second] [(.long (((q1 * (10000 : Int64)) / q2) + ((0 : Int32).toInt64)))])) _
            exact X0.lreturnOut hx Bd.returns (hb hby d1_58) hr
          · show Q1 Z q1 q2 h0 n0 _ s₁.heap _
            rw [e0]
            exact ⟨congrArg (fun z => some (Value.long z)) (by rw [f1, if_neg hc4, if_neg hc6, if_pos hc8, if_pos hc10] : f1 q1 q2 = (((q1 * (10000 : Int64)) / q2) + ((0 : Int32).toInt64))).symm, N0, rfl⟩
        · skip
          obtain ⟨fs, hr, hrun, hended, hW, hsame⟩ := X0.leave (v := some (.long (((q1 * (10000 : Int64)) / q2) + ((1 : Int32).toInt64)))) (fun h => by rw [Bd.returns] at h; cases h) (by first | exact BodyLoose.notSynchronized Bd | exact Body.notSynchronized Bd)
          refine ⟨_, _, pre9 _ ?_, hrun, hended, _, _, rfl, ?_, ⟨_, rfl⟩, hW, hsame.mono (by decide) (by decide)⟩
          · show Steps p.tables e below (s₁.setTop (mkF m 48 #[.val (.long q1), .second, .val (.long q2), .second, .val (.long (q1 * (10000 : Int64))), .second, .val (.long ((q1 * (10000 : Int64)) - ((q1 * (10000 : Int64)) / q2) * q2)), .second] [(.int (lcmpW ((q1 * (10000 : Int64)) - ((q1 * (10000 : Int64)) / q2) * q2) (q2 - ((q1 * (10000 : Int64)) - ((q1 * (10000 : Int64)) / q2) * q2)))), (.long ((q1 * (10000 : Int64)) / q2))])) _
            refine XS.ifNo X0.here hx rfl (hb hby d1_48) rfl ((if0 _ _).trans (flt (mt (lw_lt _ _).mp hc10)).1) ?_
            show Steps p.tables e below (s₁.setTop (mkF m 51 _ [(.long ((q1 * (10000 : Int64)) / q2))])) _
            refine XS.iconst X0.here hx rfl (hb hby d1_51) ?_
            show Steps p.tables e below (s₁.setTop (mkF m 52 _ [(.int (1 : Int32)), (.long ((q1 * (10000 : Int64)) / q2))])) _
            refine XS.goto X0.here hx rfl (pc0 := 52) (pc' := 56) rfl (hb hby d1_52) (by decide) (by decide) ?_
            show Steps p.tables e below (s₁.setTop (mkF m 56 _ [(.int (1 : Int32)), (.long ((q1 * (10000 : Int64)) / q2))])) _
            refine XS.i2l X0.here hx rfl (hb hby d1_56) rfl ?_
            show Steps p.tables e below (s₁.setTop (mkF m 57 _ [(.long ((1 : Int32).toInt64)), (.long ((q1 * (10000 : Int64)) / q2))])) _
            refine XS.ladd X0.here hx rfl (hb hby d1_57) rfl ?_
            show Steps p.tables e below (s₁.setTop (mkF m 58 #[.val (.long q1), .second, .val (.long q2), .second, .val (.long (q1 * (10000 : Int64))), .second, .val (.long ((q1 * (10000 : Int64)) - ((q1 * (10000 : Int64)) / q2) * q2)), .second] [(.long (((q1 * (10000 : Int64)) / q2) + ((1 : Int32).toInt64)))])) _
            exact X0.lreturnOut hx Bd.returns (hb hby d1_58) hr
          · show Q1 Z q1 q2 h0 n0 _ s₁.heap _
            rw [e0]
            exact ⟨congrArg (fun z => some (Value.long z)) (by rw [f1, if_neg hc4, if_neg hc6, if_pos hc8, if_neg hc10] : f1 q1 q2 = (((q1 * (10000 : Int64)) / q2) + ((1 : Int32).toInt64))).symm, N0, rfl⟩
      · skip
        obtain ⟨fs, hr, hrun, hended, hW, hsame⟩ := X0.leave (v := some (.long (-9223372036854775808 : Int64))) (fun h => by rw [Bd.returns] at h; cases h) (by first | exact BodyLoose.notSynchronized Bd | exact Body.notSynchronized Bd)
        refine ⟨_, _, pre7 _ ?_, hrun, hended, _, _, rfl, ?_, ⟨_, rfl⟩, hW, hsame.mono (by decide) (by decide)⟩
        · show Steps p.tables e below (s₁.setTop (mkF m 17 #[.val (.long q1), .second, .val (.long q2), .second, .unset, .unset, .unset, .unset] [(.int (lcmpW q2 (0 : Int64)))])) _
          refine XS.ifNo X0.here hx rfl (hb hby d1_17) rfl ((if0 _ _).trans (flt (mt (lw_gt _ _).mp hc8)).2.2.1) ?_
          show Steps p.tables e below (s₁.setTop (mkF m 20 _ [])) _
          refine X0.ldc2Long hx hown (mvT hZ (hw _ (List.mem_of_getElem? (i := 14) rfl))) (g := (mkF m 20 #[.val (.long q1), .second, .val (.long q2), .second, .unset, .unset, .unset, .unset] [])) rfl (hb hby d1_20) _ ?_
          show Steps p.tables e below (s₁.setTop (mkF m 23 #[.val (.long q1), .second, .val (.long q2), .second, .unset, .unset, .unset, .unset] [(.long (-9223372036854775808 : Int64))])) _
          exact X0.lreturnOut hx Bd.returns (hb hby d1_23) hr
        · show Q1 Z q1 q2 h0 n0 _ s₁.heap _
          rw [e0]
          exact ⟨congrArg (fun z => some (Value.long z)) (by rw [f1, if_neg hc4, if_neg hc6, if_neg hc8] : f1 q1 q2 = (-9223372036854775808 : Int64)).symm, N0, rfl⟩
theorem d2_0 : decode method_3_code 0 = .ok (.lload 4, 2) := by decide +kernel
theorem d2_2 : decode method_3_code 2 = .ok (.lconst 0, 1) := by decide +kernel
theorem d2_3 : decode method_3_code 3 = .ok (.lcmp, 1) := by decide +kernel
theorem d2_4 : decode method_3_code 4 = .ok (.ifCond .ge 5, 3) := by decide +kernel
theorem d2_7 : decode method_3_code 7 = .ok (.iconst 0, 1) := by decide +kernel
theorem d2_8 : decode method_3_code 8 = .ok (.ireturn, 1) := by decide +kernel
theorem d2_9 : decode method_3_code 9 = .ok (.lload 4, 2) := by decide +kernel
theorem d2_11 : decode method_3_code 11 = .ok (.lconst 0, 1) := by decide +kernel
theorem d2_12 : decode method_3_code 12 = .ok (.lcmp, 1) := by decide +kernel
theorem d2_13 : decode method_3_code 13 = .ok (.ifCond .ne 17, 3) := by decide +kernel
theorem d2_16 : decode method_3_code 16 = .ok (.lload_n 0, 1) := by decide +kernel
theorem d2_17 : decode method_3_code 17 = .ok (.lload_n 2, 1) := by decide +kernel
theorem d2_18 : decode method_3_code 18 = .ok (.lload_n 0, 1) := by decide +kernel
theorem d2_19 : decode method_3_code 19 = .ok (.lsub, 1) := by decide +kernel
theorem d2_20 : decode method_3_code 20 = .ok (.lcmp, 1) := by decide +kernel
theorem d2_21 : decode method_3_code 21 = .ok (.ifCond .ge 7, 3) := by decide +kernel
theorem d2_24 : decode method_3_code 24 = .ok (.iconst 1, 1) := by decide +kernel
theorem d2_25 : decode method_3_code 25 = .ok (.goto 4, 3) := by decide +kernel
theorem d2_28 : decode method_3_code 28 = .ok (.iconst 0, 1) := by decide +kernel
theorem d2_29 : decode method_3_code 29 = .ok (.ireturn, 1) := by decide +kernel
theorem d2_30 : decode method_3_code 30 = .ok (.lload 4, 2) := by decide +kernel
theorem d2_32 : decode method_3_code 32 = .ok (.lconst 1, 1) := by decide +kernel
theorem d2_33 : decode method_3_code 33 = .ok (.lsub, 1) := by decide +kernel
theorem d2_34 : decode method_3_code 34 = .ok (.lstore 6, 2) := by decide +kernel
theorem d2_36 : decode method_3_code 36 = .ok (.lload 6, 2) := by decide +kernel
theorem d2_38 : decode method_3_code 38 = .ok (.lload_n 2, 1) := by decide +kernel
theorem d2_39 : decode method_3_code 39 = .ok (.lmul, 1) := by decide +kernel
theorem d2_40 : decode method_3_code 40 = .ok (.lstore 8, 2) := by decide +kernel
theorem d2_42 : decode method_3_code 42 = .ok (.lload 8, 2) := by decide +kernel
theorem d2_44 : decode method_3_code 44 = .ok (.lload_n 2, 1) := by decide +kernel
theorem d2_45 : decode method_3_code 45 = .ok (.ldiv, 1) := by decide +kernel
theorem d2_46 : decode method_3_code 46 = .ok (.lload 6, 2) := by decide +kernel
theorem d2_48 : decode method_3_code 48 = .ok (.lcmp, 1) := by decide +kernel
theorem d2_49 : decode method_3_code 49 = .ok (.ifCond .ne 10, 3) := by decide +kernel
theorem d2_52 : decode method_3_code 52 = .ok (.lload 8, 2) := by decide +kernel
theorem d2_54 : decode method_3_code 54 = .ok (.lload_n 0, 1) := by decide +kernel
theorem d2_55 : decode method_3_code 55 = .ok (.lcmp, 1) := by decide +kernel
theorem d2_56 : decode method_3_code 56 = .ok (.ifCond .le 5, 3) := by decide +kernel
theorem d2_59 : decode method_3_code 59 = .ok (.iconst 0, 1) := by decide +kernel
theorem d2_60 : decode method_3_code 60 = .ok (.ireturn, 1) := by decide +kernel
theorem d2_61 : decode method_3_code 61 = .ok (.lload_n 0, 1) := by decide +kernel
theorem d2_62 : decode method_3_code 62 = .ok (.lload 8, 2) := by decide +kernel
theorem d2_64 : decode method_3_code 64 = .ok (.lsub, 1) := by decide +kernel
theorem d2_65 : decode method_3_code 65 = .ok (.lload_n 2, 1) := by decide +kernel
theorem d2_66 : decode method_3_code 66 = .ok (.lsub, 1) := by decide +kernel
theorem d2_67 : decode method_3_code 67 = .ok (.lstore 10, 2) := by decide +kernel
theorem d2_69 : decode method_3_code 69 = .ok (.lload 10, 2) := by decide +kernel
theorem d2_71 : decode method_3_code 71 = .ok (.lconst 0, 1) := by decide +kernel
theorem d2_72 : decode method_3_code 72 = .ok (.lcmp, 1) := by decide +kernel
theorem d2_73 : decode method_3_code 73 = .ok (.ifCond .lt 19, 3) := by decide +kernel
theorem d2_76 : decode method_3_code 76 = .ok (.lload 10, 2) := by decide +kernel
theorem d2_78 : decode method_3_code 78 = .ok (.lload_n 2, 1) := by decide +kernel
theorem d2_79 : decode method_3_code 79 = .ok (.lload 10, 2) := by decide +kernel
theorem d2_81 : decode method_3_code 81 = .ok (.lsub, 1) := by decide +kernel
theorem d2_82 : decode method_3_code 82 = .ok (.lcmp, 1) := by decide +kernel
theorem d2_83 : decode method_3_code 83 = .ok (.ifCond .ge 7, 3) := by decide +kernel
theorem d2_86 : decode method_3_code 86 = .ok (.iconst 1, 1) := by decide +kernel
theorem d2_87 : decode method_3_code 87 = .ok (.goto 4, 3) := by decide +kernel
theorem d2_90 : decode method_3_code 90 = .ok (.iconst 0, 1) := by decide +kernel
theorem d2_91 : decode method_3_code 91 = .ok (.ireturn, 1) := by decide +kernel
theorem d2_92 : decode method_3_code 92 = .ok (.lload 10, 2) := by decide +kernel
theorem d2_94 : decode method_3_code 94 = .ok (.lneg, 1) := by decide +kernel
theorem d2_95 : decode method_3_code 95 = .ok (.lload_n 2, 1) := by decide +kernel
theorem d2_96 : decode method_3_code 96 = .ok (.lload 10, 2) := by decide +kernel
theorem d2_98 : decode method_3_code 98 = .ok (.ladd, 1) := by decide +kernel
theorem d2_99 : decode method_3_code 99 = .ok (.lcmp, 1) := by decide +kernel
theorem d2_100 : decode method_3_code 100 = .ok (.ifCond .gt 7, 3) := by decide +kernel
theorem d2_103 : decode method_3_code 103 = .ok (.iconst 1, 1) := by decide +kernel
theorem d2_104 : decode method_3_code 104 = .ok (.goto 4, 3) := by decide +kernel
theorem d2_107 : decode method_3_code 107 = .ok (.iconst 0, 1) := by decide +kernel
theorem d2_108 : decode method_3_code 108 = .ok (.ireturn, 1) := by decide +kernel
theorem pn_2 : plainName "com/example/creditree/creditree/MoneyPercentInHundredthsPinLaw" = true := by first | (simp [plainName, overriddenIn]; done) | decide +kernel
theorem ef_2 (m : MethodId) (x0 : Int64) (x1 : Int64) (x2 : Int64) : entryFrame m #[(.long x0), (.long x1), (.long x2)] 12 = mkF m 0 #[.val (.long x0), .second, .val (.long x1), .second, .val (.long x2), .second, .unset, .unset, .unset, .unset, .unset, .unset] [] := by first | (simp [entryFrame, mkF, argsToLocals, Value.category]; done) | rfl
def f2 (q1 : Int64) (q2 : Int64) (q3 : Int64) : Int32 := (if q3 < (0 : Int64) then (0 : Int32) else (if q3 = (0 : Int64) then (if q1 < (q2 - q1) then (1 : Int32) else (0 : Int32)) else (if (((q3 - (1 : Int64)) * q2) / q2) = (q3 - (1 : Int64)) then (if q1 < ((q3 - (1 : Int64)) * q2) then (0 : Int32) else (if ((q1 - ((q3 - (1 : Int64)) * q2)) - q2) < (0 : Int64) then (if (q2 + ((q1 - ((q3 - (1 : Int64)) * q2)) - q2)) < (-((q1 - ((q3 - (1 : Int64)) * q2)) - q2)) then (0 : Int32) else (1 : Int32)) else (if ((q1 - ((q3 - (1 : Int64)) * q2)) - q2) < (q2 - ((q1 - ((q3 - (1 : Int64)) * q2)) - q2)) then (1 : Int32) else (0 : Int32)))) else (0 : Int32))))
def Q2 (Z : State) (q1 : Int64) (q2 : Int64) (q3 : Int64) (h0 : Heap) (n0 : Nat) (v : Option Value) (h : Heap) (L : List Loc) : Prop := v = some (.int (f2 q1 q2 q3)) ∧ Fr n0 L ∧ h = h0
set_option maxRecDepth 65536 in
set_option maxHeartbeats 40000000 in
theorem rm2 (l : Launch) (Z : State) (a0 : Array Value) (hw : ∀ d ∈ tables_1, d.before a0 Z = true) (ws : List Jvm.Cond) (q1 : Int64) (q2 : Int64) (q3 : Int64) (h0 : Heap) (n0 : Nat) (Z0 : n0 ≤ h0.size) (hnz45 : ¬ (q2 = (0 : Int64))) :
    MetFree l (⟨"com/example/creditree/creditree/MoneyPercentInHundredthsPinLaw", "isRounded", "(JJJ)Z"⟩ : MethodName) (head1 (Jvm.Cond.code (⟨"com/example/creditree/creditree/MoneyPercentInHundredthsPinLaw", "isRounded", "(JJJ)Z"⟩ : MethodName) method_3_code 12 (some .boolean) :: ws) ({ frames := 0, cells := 0, slots := 0, locals := 0 } : Room)) (fun a U => a = #[(.long q1), (.long q2), (.long q3)] ∧ Z.Warmed39 U.vm ∧ U.heap = h0) (fun _ _ _ _ _ => True) (fun _ U o U' => ∃ v L, o = .returned v ∧ Q2 Z q1 q2 q3 h0 n0 v U'.heap L ∧ FrameEnd U o U' L ({ frames := 0, cells := 0, slots := 0, locals := 0 } : Room).cells ({ frames := 0, cells := 0, slots := 0, locals := 0 } : Room).slots) := by
  refine MetFree.of_bodySF (plainFor_of_name pn_2) hisR ?_
  intro p e s m args below meth c s₁ Bd hml0 hP hK
  obtain ⟨rfl, hZ, hh⟩ := hP
  have hx := Bd.exec
  have hby := Bd.bytes
  have hml : c.maxLocals = 12 := hml0
  have hown : s.vm.findClass "com/example/creditree/creditree/MoneyPercentInHundredthsPinLaw" = some m.cls := findClass_of_methodNamed Bd.named
  have hnm := (name_of_methodNamed Bd.named Bd.method).1
  have X0 : Stand p l e ({ frames := 0, cells := 0, slots := 0, locals := 0 } : Room) s m #[(.long q1), (.long q2), (.long q3)] below meth c s₁ [] 0 0 := Stand.of_body Bd
  have e0 : s₁.heap = h0 := by rw [← hh, Bd.state]; rfl
  have N0 := Fr.nil n0
  have pre0 : ∀ t, Steps p.tables e below (s₁.setTop (mkF m 0 #[.val (.long q1), .second, .val (.long q2), .second, .val (.long q3), .second, .unset, .unset, .unset, .unset, .unset, .unset] [])) t → Steps p.tables e below (s₁.setTop (entryFrame m #[(.long q1), (.long q2), (.long q3)] 12)) t := fun t k => castTop (ef_2 m q1 q2 q3) k
  have pre4 : ∀ t, Steps p.tables e below (s₁.setTop (mkF m 4 #[.val (.long q1), .second, .val (.long q2), .second, .val (.long q3), .second, .unset, .unset, .unset, .unset, .unset, .unset] [(.int (lcmpW q3 (0 : Int64)))])) t → Steps p.tables e below (s₁.setTop (entryFrame m #[(.long q1), (.long q2), (.long q3)] 12)) t := fun t kt => by
    refine pre0 _ ?_
    show Steps p.tables e below (s₁.setTop (mkF m 0 #[.val (.long q1), .second, .val (.long q2), .second, .val (.long q3), .second, .unset, .unset, .unset, .unset, .unset, .unset] [])) _
    refine XS.lload X0.here hx rfl (hb hby d2_0) rfl ?_
    show Steps p.tables e below (s₁.setTop (mkF m 2 _ [(.long q3)])) _
    refine XS.lconst X0.here hx rfl (hb hby d2_2) ?_
    show Steps p.tables e below (s₁.setTop (mkF m 3 _ [(.long (0 : Int64)), (.long q3)])) _
    refine XS.lcmp X0.here hx rfl (hb hby d2_3) rfl ?_
    exact kt
  by_cases hc5 : q3 < (0 : Int64)
  · skip
    obtain ⟨fs, hr, hrun, hended, hW, hsame⟩ := X0.leave (v := some (.int (0 : Int32))) (fun h => by rw [Bd.returns] at h; cases h) (by first | exact BodyLoose.notSynchronized Bd | exact Body.notSynchronized Bd)
    refine ⟨_, _, pre4 _ ?_, hrun, hended, _, _, rfl, ?_, ⟨_, rfl⟩, hW, hsame.mono (by decide) (by decide)⟩
    · show Steps p.tables e below (s₁.setTop (mkF m 4 #[.val (.long q1), .second, .val (.long q2), .second, .val (.long q3), .second, .unset, .unset, .unset, .unset, .unset, .unset] [(.int (lcmpW q3 (0 : Int64)))])) _
      refine XS.ifNo X0.here hx rfl (hb hby d2_4) rfl ((if0 _ _).trans (tlt ((lw_lt _ _).mpr hc5)).2.1) ?_
      show Steps p.tables e below (s₁.setTop (mkF m 7 _ [])) _
      refine XS.iconst X0.here hx rfl (hb hby d2_7) ?_
      show Steps p.tables e below (s₁.setTop (mkF m 8 #[.val (.long q1), .second, .val (.long q2), .second, .val (.long q3), .second, .unset, .unset, .unset, .unset, .unset, .unset] [(.int (0 : Int32))])) _
      exact retN X0 hx (t := .boolean) Bd.returns (by simp) (hb hby d2_8) hr
    · show Q2 Z q1 q2 q3 h0 n0 _ s₁.heap _
      rw [e0]
      exact ⟨congrArg (fun z => some (Value.int z)) (by rw [f2, if_pos hc5] : f2 q1 q2 q3 = (0 : Int32)).symm, N0, rfl⟩
  · skip
    have pre6 : ∀ t, Steps p.tables e below (s₁.setTop (mkF m 13 #[.val (.long q1), .second, .val (.long q2), .second, .val (.long q3), .second, .unset, .unset, .unset, .unset, .unset, .unset] [(.int (lcmpW q3 (0 : Int64)))])) t → Steps p.tables e below (s₁.setTop (entryFrame m #[(.long q1), (.long q2), (.long q3)] 12)) t := fun t kt => by
      refine pre4 _ ?_
      show Steps p.tables e below (s₁.setTop (mkF m 4 #[.val (.long q1), .second, .val (.long q2), .second, .val (.long q3), .second, .unset, .unset, .unset, .unset, .unset, .unset] [(.int (lcmpW q3 (0 : Int64)))])) _
      refine XS.ifYes X0.here hx rfl (pc0 := 4) (pc' := 9) rfl (hb hby d2_4) rfl ((if0 _ _).trans (flt (mt (lw_lt _ _).mp hc5)).2.1) (by decide) (by decide) ?_
      show Steps p.tables e below (s₁.setTop (mkF m 9 _ [])) _
      refine XS.lload X0.here hx rfl (hb hby d2_9) rfl ?_
      show Steps p.tables e below (s₁.setTop (mkF m 11 _ [(.long q3)])) _
      refine XS.lconst X0.here hx rfl (hb hby d2_11) ?_
      show Steps p.tables e below (s₁.setTop (mkF m 12 _ [(.long (0 : Int64)), (.long q3)])) _
      refine XS.lcmp X0.here hx rfl (hb hby d2_12) rfl ?_
      exact kt
    by_cases hc7 : q3 = (0 : Int64)
    · skip
      have pre8 : ∀ t, Steps p.tables e below (s₁.setTop (mkF m 21 #[.val (.long q1), .second, .val (.long q2), .second, .val (.long q3), .second, .unset, .unset, .unset, .unset, .unset, .unset] [(.int (lcmpW q1 (q2 - q1)))])) t → Steps p.tables e below (s₁.setTop (entryFrame m #[(.long q1), (.long q2), (.long q3)] 12)) t := fun t kt => by
        refine pre6 _ ?_
        show Steps p.tables e below (s₁.setTop (mkF m 13 #[.val (.long q1), .second, .val (.long q2), .second, .val (.long q3), .second, .unset, .unset, .unset, .unset, .unset, .unset] [(.int (lcmpW q3 (0 : Int64)))])) _
        refine XS.ifNo X0.here hx rfl (hb hby d2_13) rfl ((if0 _ _).trans (teq ((lw_eq _ _).mpr hc7)).2) ?_
        show Steps p.tables e below (s₁.setTop (mkF m 16 _ [])) _
        refine XS.lloadN X0.here hx rfl (hb hby d2_16) rfl ?_
        show Steps p.tables e below (s₁.setTop (mkF m 17 _ [(.long q1)])) _
        refine XS.lloadN X0.here hx rfl (hb hby d2_17) rfl ?_
        show Steps p.tables e below (s₁.setTop (mkF m 18 _ [(.long q2), (.long q1)])) _
        refine XS.lloadN X0.here hx rfl (hb hby d2_18) rfl ?_
        show Steps p.tables e below (s₁.setTop (mkF m 19 _ [(.long q1), (.long q2), (.long q1)])) _
        refine XS.lsub X0.here hx rfl (hb hby d2_19) rfl ?_
        show Steps p.tables e below (s₁.setTop (mkF m 20 _ [(.long (q2 - q1)), (.long q1)])) _
        refine XS.lcmp X0.here hx rfl (hb hby d2_20) rfl ?_
        exact kt
      by_cases hc9 : q1 < (q2 - q1)
      · skip
        obtain ⟨fs, hr, hrun, hended, hW, hsame⟩ := X0.leave (v := some (.int (1 : Int32))) (fun h => by rw [Bd.returns] at h; cases h) (by first | exact BodyLoose.notSynchronized Bd | exact Body.notSynchronized Bd)
        refine ⟨_, _, pre8 _ ?_, hrun, hended, _, _, rfl, ?_, ⟨_, rfl⟩, hW, hsame.mono (by decide) (by decide)⟩
        · show Steps p.tables e below (s₁.setTop (mkF m 21 #[.val (.long q1), .second, .val (.long q2), .second, .val (.long q3), .second, .unset, .unset, .unset, .unset, .unset, .unset] [(.int (lcmpW q1 (q2 - q1)))])) _
          refine XS.ifNo X0.here hx rfl (hb hby d2_21) rfl ((if0 _ _).trans (tlt ((lw_lt _ _).mpr hc9)).2.1) ?_
          show Steps p.tables e below (s₁.setTop (mkF m 24 _ [])) _
          refine XS.iconst X0.here hx rfl (hb hby d2_24) ?_
          show Steps p.tables e below (s₁.setTop (mkF m 25 _ [(.int (1 : Int32))])) _
          refine XS.goto X0.here hx rfl (pc0 := 25) (pc' := 29) rfl (hb hby d2_25) (by decide) (by decide) ?_
          show Steps p.tables e below (s₁.setTop (mkF m 29 #[.val (.long q1), .second, .val (.long q2), .second, .val (.long q3), .second, .unset, .unset, .unset, .unset, .unset, .unset] [(.int (1 : Int32))])) _
          exact retN X0 hx (t := .boolean) Bd.returns (by simp) (hb hby d2_29) hr
        · show Q2 Z q1 q2 q3 h0 n0 _ s₁.heap _
          rw [e0]
          exact ⟨congrArg (fun z => some (Value.int z)) (by rw [f2, if_neg hc5, if_pos hc7, if_pos hc9] : f2 q1 q2 q3 = (1 : Int32)).symm, N0, rfl⟩
      · skip
        obtain ⟨fs, hr, hrun, hended, hW, hsame⟩ := X0.leave (v := some (.int (0 : Int32))) (fun h => by rw [Bd.returns] at h; cases h) (by first | exact BodyLoose.notSynchronized Bd | exact Body.notSynchronized Bd)
        refine ⟨_, _, pre8 _ ?_, hrun, hended, _, _, rfl, ?_, ⟨_, rfl⟩, hW, hsame.mono (by decide) (by decide)⟩
        · show Steps p.tables e below (s₁.setTop (mkF m 21 #[.val (.long q1), .second, .val (.long q2), .second, .val (.long q3), .second, .unset, .unset, .unset, .unset, .unset, .unset] [(.int (lcmpW q1 (q2 - q1)))])) _
          refine XS.ifYes X0.here hx rfl (pc0 := 21) (pc' := 28) rfl (hb hby d2_21) rfl ((if0 _ _).trans (flt (mt (lw_lt _ _).mp hc9)).2.1) (by decide) (by decide) ?_
          show Steps p.tables e below (s₁.setTop (mkF m 28 _ [])) _
          refine XS.iconst X0.here hx rfl (hb hby d2_28) ?_
          show Steps p.tables e below (s₁.setTop (mkF m 29 #[.val (.long q1), .second, .val (.long q2), .second, .val (.long q3), .second, .unset, .unset, .unset, .unset, .unset, .unset] [(.int (0 : Int32))])) _
          exact retN X0 hx (t := .boolean) Bd.returns (by simp) (hb hby d2_29) hr
        · show Q2 Z q1 q2 q3 h0 n0 _ s₁.heap _
          rw [e0]
          exact ⟨congrArg (fun z => some (Value.int z)) (by rw [f2, if_neg hc5, if_pos hc7, if_neg hc9] : f2 q1 q2 q3 = (0 : Int32)).symm, N0, rfl⟩
    · skip
      have pre10 : ∀ t, Steps p.tables e below (s₁.setTop (mkF m 49 #[.val (.long q1), .second, .val (.long q2), .second, .val (.long q3), .second, .val (.long (q3 - (1 : Int64))), .second, .val (.long ((q3 - (1 : Int64)) * q2)), .second, .unset, .unset] [(.int (lcmpW (((q3 - (1 : Int64)) * q2) / q2) (q3 - (1 : Int64))))])) t → Steps p.tables e below (s₁.setTop (entryFrame m #[(.long q1), (.long q2), (.long q3)] 12)) t := fun t kt => by
        refine pre6 _ ?_
        show Steps p.tables e below (s₁.setTop (mkF m 13 #[.val (.long q1), .second, .val (.long q2), .second, .val (.long q3), .second, .unset, .unset, .unset, .unset, .unset, .unset] [(.int (lcmpW q3 (0 : Int64)))])) _
        refine XS.ifYes X0.here hx rfl (pc0 := 13) (pc' := 30) rfl (hb hby d2_13) rfl ((if0 _ _).trans (feq (mt (lw_eq _ _).mp hc7)).2) (by decide) (by decide) ?_
        show Steps p.tables e below (s₁.setTop (mkF m 30 _ [])) _
        refine XS.lload X0.here hx rfl (hb hby d2_30) rfl ?_
        show Steps p.tables e below (s₁.setTop (mkF m 32 _ [(.long q3)])) _
        refine XS.lconst X0.here hx rfl (hb hby d2_32) ?_
        show Steps p.tables e below (s₁.setTop (mkF m 33 _ [(.long (1 : Int64)), (.long q3)])) _
        refine XS.lsub X0.here hx rfl (hb hby d2_33) rfl ?_
        show Steps p.tables e below (s₁.setTop (mkF m 34 _ [(.long (q3 - (1 : Int64)))])) _
        refine XS.lstore X0.here hx rfl (hb hby d2_34) rfl (l' := #[.val (.long q1), .second, .val (.long q2), .second, .val (.long q3), .second, .val (.long (q3 - (1 : Int64))), .second, .unset, .unset, .unset, .unset]) rfl ?_
        show Steps p.tables e below (s₁.setTop (mkF m 36 _ [])) _
        refine XS.lload X0.here hx rfl (hb hby d2_36) rfl ?_
        show Steps p.tables e below (s₁.setTop (mkF m 38 _ [(.long (q3 - (1 : Int64)))])) _
        refine XS.lloadN X0.here hx rfl (hb hby d2_38) rfl ?_
        show Steps p.tables e below (s₁.setTop (mkF m 39 _ [(.long q2), (.long (q3 - (1 : Int64)))])) _
        refine XS.lmul X0.here hx rfl (hb hby d2_39) rfl ?_
        show Steps p.tables e below (s₁.setTop (mkF m 40 _ [(.long ((q3 - (1 : Int64)) * q2))])) _
        refine XS.lstore X0.here hx rfl (hb hby d2_40) rfl (l' := #[.val (.long q1), .second, .val (.long q2), .second, .val (.long q3), .second, .val (.long (q3 - (1 : Int64))), .second, .val (.long ((q3 - (1 : Int64)) * q2)), .second, .unset, .unset]) rfl ?_
        show Steps p.tables e below (s₁.setTop (mkF m 42 _ [])) _
        refine XS.lload X0.here hx rfl (hb hby d2_42) rfl ?_
        show Steps p.tables e below (s₁.setTop (mkF m 44 _ [(.long ((q3 - (1 : Int64)) * q2))])) _
        refine XS.lloadN X0.here hx rfl (hb hby d2_44) rfl ?_
        show Steps p.tables e below (s₁.setTop (mkF m 45 _ [(.long q2), (.long ((q3 - (1 : Int64)) * q2))])) _
        refine XS.ldiv X0.here hx rfl (hb hby d2_45) rfl hnz45 ?_
        show Steps p.tables e below (s₁.setTop (mkF m 46 _ [(.long (((q3 - (1 : Int64)) * q2) / q2))])) _
        refine XS.lload X0.here hx rfl (hb hby d2_46) rfl ?_
        show Steps p.tables e below (s₁.setTop (mkF m 48 _ [(.long (q3 - (1 : Int64))), (.long (((q3 - (1 : Int64)) * q2) / q2))])) _
        refine XS.lcmp X0.here hx rfl (hb hby d2_48) rfl ?_
        exact kt
      by_cases hc11 : (((q3 - (1 : Int64)) * q2) / q2) = (q3 - (1 : Int64))
      · skip
        have pre12 : ∀ t, Steps p.tables e below (s₁.setTop (mkF m 56 #[.val (.long q1), .second, .val (.long q2), .second, .val (.long q3), .second, .val (.long (q3 - (1 : Int64))), .second, .val (.long ((q3 - (1 : Int64)) * q2)), .second, .unset, .unset] [(.int (lcmpW ((q3 - (1 : Int64)) * q2) q1))])) t → Steps p.tables e below (s₁.setTop (entryFrame m #[(.long q1), (.long q2), (.long q3)] 12)) t := fun t kt => by
          refine pre10 _ ?_
          show Steps p.tables e below (s₁.setTop (mkF m 49 #[.val (.long q1), .second, .val (.long q2), .second, .val (.long q3), .second, .val (.long (q3 - (1 : Int64))), .second, .val (.long ((q3 - (1 : Int64)) * q2)), .second, .unset, .unset] [(.int (lcmpW (((q3 - (1 : Int64)) * q2) / q2) (q3 - (1 : Int64))))])) _
          refine XS.ifNo X0.here hx rfl (hb hby d2_49) rfl ((if0 _ _).trans (teq ((lw_eq _ _).mpr hc11)).2) ?_
          show Steps p.tables e below (s₁.setTop (mkF m 52 _ [])) _
          refine XS.lload X0.here hx rfl (hb hby d2_52) rfl ?_
          show Steps p.tables e below (s₁.setTop (mkF m 54 _ [(.long ((q3 - (1 : Int64)) * q2))])) _
          refine XS.lloadN X0.here hx rfl (hb hby d2_54) rfl ?_
          show Steps p.tables e below (s₁.setTop (mkF m 55 _ [(.long q1), (.long ((q3 - (1 : Int64)) * q2))])) _
          refine XS.lcmp X0.here hx rfl (hb hby d2_55) rfl ?_
          exact kt
        by_cases hc13 : q1 < ((q3 - (1 : Int64)) * q2)
        · skip
          obtain ⟨fs, hr, hrun, hended, hW, hsame⟩ := X0.leave (v := some (.int (0 : Int32))) (fun h => by rw [Bd.returns] at h; cases h) (by first | exact BodyLoose.notSynchronized Bd | exact Body.notSynchronized Bd)
          refine ⟨_, _, pre12 _ ?_, hrun, hended, _, _, rfl, ?_, ⟨_, rfl⟩, hW, hsame.mono (by decide) (by decide)⟩
          · show Steps p.tables e below (s₁.setTop (mkF m 56 #[.val (.long q1), .second, .val (.long q2), .second, .val (.long q3), .second, .val (.long (q3 - (1 : Int64))), .second, .val (.long ((q3 - (1 : Int64)) * q2)), .second, .unset, .unset] [(.int (lcmpW ((q3 - (1 : Int64)) * q2) q1))])) _
            refine XS.ifNo X0.here hx rfl (hb hby d2_56) rfl ((if0 _ _).trans (tlt ((lw_gt _ _).mpr hc13)).2.2.2) ?_
            show Steps p.tables e below (s₁.setTop (mkF m 59 _ [])) _
            refine XS.iconst X0.here hx rfl (hb hby d2_59) ?_
            show Steps p.tables e below (s₁.setTop (mkF m 60 #[.val (.long q1), .second, .val (.long q2), .second, .val (.long q3), .second, .val (.long (q3 - (1 : Int64))), .second, .val (.long ((q3 - (1 : Int64)) * q2)), .second, .unset, .unset] [(.int (0 : Int32))])) _
            exact retN X0 hx (t := .boolean) Bd.returns (by simp) (hb hby d2_60) hr
          · show Q2 Z q1 q2 q3 h0 n0 _ s₁.heap _
            rw [e0]
            exact ⟨congrArg (fun z => some (Value.int z)) (by rw [f2, if_neg hc5, if_neg hc7, if_pos hc11, if_pos hc13] : f2 q1 q2 q3 = (0 : Int32)).symm, N0, rfl⟩
        · skip
          have pre14 : ∀ t, Steps p.tables e below (s₁.setTop (mkF m 73 #[.val (.long q1), .second, .val (.long q2), .second, .val (.long q3), .second, .val (.long (q3 - (1 : Int64))), .second, .val (.long ((q3 - (1 : Int64)) * q2)), .second, .val (.long ((q1 - ((q3 - (1 : Int64)) * q2)) - q2)), .second] [(.int (lcmpW ((q1 - ((q3 - (1 : Int64)) * q2)) - q2) (0 : Int64)))])) t → Steps p.tables e below (s₁.setTop (entryFrame m #[(.long q1), (.long q2), (.long q3)] 12)) t := fun t kt => by
            refine pre12 _ ?_
            show Steps p.tables e below (s₁.setTop (mkF m 56 #[.val (.long q1), .second, .val (.long q2), .second, .val (.long q3), .second, .val (.long (q3 - (1 : Int64))), .second, .val (.long ((q3 - (1 : Int64)) * q2)), .second, .unset, .unset] [(.int (lcmpW ((q3 - (1 : Int64)) * q2) q1))])) _
            refine XS.ifYes X0.here hx rfl (pc0 := 56) (pc' := 61) rfl (hb hby d2_56) rfl ((if0 _ _).trans (flt (mt (lw_gt _ _).mp hc13)).2.2.2) (by decide) (by decide) ?_
            show Steps p.tables e below (s₁.setTop (mkF m 61 _ [])) _
            refine XS.lloadN X0.here hx rfl (hb hby d2_61) rfl ?_
            show Steps p.tables e below (s₁.setTop (mkF m 62 _ [(.long q1)])) _
            refine XS.lload X0.here hx rfl (hb hby d2_62) rfl ?_
            show Steps p.tables e below (s₁.setTop (mkF m 64 _ [(.long ((q3 - (1 : Int64)) * q2)), (.long q1)])) _
            refine XS.lsub X0.here hx rfl (hb hby d2_64) rfl ?_
            show Steps p.tables e below (s₁.setTop (mkF m 65 _ [(.long (q1 - ((q3 - (1 : Int64)) * q2)))])) _
            refine XS.lloadN X0.here hx rfl (hb hby d2_65) rfl ?_
            show Steps p.tables e below (s₁.setTop (mkF m 66 _ [(.long q2), (.long (q1 - ((q3 - (1 : Int64)) * q2)))])) _
            refine XS.lsub X0.here hx rfl (hb hby d2_66) rfl ?_
            show Steps p.tables e below (s₁.setTop (mkF m 67 _ [(.long ((q1 - ((q3 - (1 : Int64)) * q2)) - q2))])) _
            refine XS.lstore X0.here hx rfl (hb hby d2_67) rfl (l' := #[.val (.long q1), .second, .val (.long q2), .second, .val (.long q3), .second, .val (.long (q3 - (1 : Int64))), .second, .val (.long ((q3 - (1 : Int64)) * q2)), .second, .val (.long ((q1 - ((q3 - (1 : Int64)) * q2)) - q2)), .second]) rfl ?_
            show Steps p.tables e below (s₁.setTop (mkF m 69 _ [])) _
            refine XS.lload X0.here hx rfl (hb hby d2_69) rfl ?_
            show Steps p.tables e below (s₁.setTop (mkF m 71 _ [(.long ((q1 - ((q3 - (1 : Int64)) * q2)) - q2))])) _
            refine XS.lconst X0.here hx rfl (hb hby d2_71) ?_
            show Steps p.tables e below (s₁.setTop (mkF m 72 _ [(.long (0 : Int64)), (.long ((q1 - ((q3 - (1 : Int64)) * q2)) - q2))])) _
            refine XS.lcmp X0.here hx rfl (hb hby d2_72) rfl ?_
            exact kt
          by_cases hc15 : ((q1 - ((q3 - (1 : Int64)) * q2)) - q2) < (0 : Int64)
          · skip
            have pre16 : ∀ t, Steps p.tables e below (s₁.setTop (mkF m 100 #[.val (.long q1), .second, .val (.long q2), .second, .val (.long q3), .second, .val (.long (q3 - (1 : Int64))), .second, .val (.long ((q3 - (1 : Int64)) * q2)), .second, .val (.long ((q1 - ((q3 - (1 : Int64)) * q2)) - q2)), .second] [(.int (lcmpW (-((q1 - ((q3 - (1 : Int64)) * q2)) - q2)) (q2 + ((q1 - ((q3 - (1 : Int64)) * q2)) - q2))))])) t → Steps p.tables e below (s₁.setTop (entryFrame m #[(.long q1), (.long q2), (.long q3)] 12)) t := fun t kt => by
              refine pre14 _ ?_
              show Steps p.tables e below (s₁.setTop (mkF m 73 #[.val (.long q1), .second, .val (.long q2), .second, .val (.long q3), .second, .val (.long (q3 - (1 : Int64))), .second, .val (.long ((q3 - (1 : Int64)) * q2)), .second, .val (.long ((q1 - ((q3 - (1 : Int64)) * q2)) - q2)), .second] [(.int (lcmpW ((q1 - ((q3 - (1 : Int64)) * q2)) - q2) (0 : Int64)))])) _
              refine XS.ifYes X0.here hx rfl (pc0 := 73) (pc' := 92) rfl (hb hby d2_73) rfl ((if0 _ _).trans (tlt ((lw_lt _ _).mpr hc15)).1) (by decide) (by decide) ?_
              show Steps p.tables e below (s₁.setTop (mkF m 92 _ [])) _
              refine XS.lload X0.here hx rfl (hb hby d2_92) rfl ?_
              show Steps p.tables e below (s₁.setTop (mkF m 94 _ [(.long ((q1 - ((q3 - (1 : Int64)) * q2)) - q2))])) _
              refine XS.lneg X0.here hx rfl (hb hby d2_94) rfl ?_
              show Steps p.tables e below (s₁.setTop (mkF m 95 _ [(.long (-((q1 - ((q3 - (1 : Int64)) * q2)) - q2)))])) _
              refine XS.lloadN X0.here hx rfl (hb hby d2_95) rfl ?_
              show Steps p.tables e below (s₁.setTop (mkF m 96 _ [(.long q2), (.long (-((q1 - ((q3 - (1 : Int64)) * q2)) - q2)))])) _
              refine XS.lload X0.here hx rfl (hb hby d2_96) rfl ?_
              show Steps p.tables e below (s₁.setTop (mkF m 98 _ [(.long ((q1 - ((q3 - (1 : Int64)) * q2)) - q2)), (.long q2), (.long (-((q1 - ((q3 - (1 : Int64)) * q2)) - q2)))])) _
              refine XS.ladd X0.here hx rfl (hb hby d2_98) rfl ?_
              show Steps p.tables e below (s₁.setTop (mkF m 99 _ [(.long (q2 + ((q1 - ((q3 - (1 : Int64)) * q2)) - q2))), (.long (-((q1 - ((q3 - (1 : Int64)) * q2)) - q2)))])) _
              refine XS.lcmp X0.here hx rfl (hb hby d2_99) rfl ?_
              exact kt
            by_cases hc17 : (q2 + ((q1 - ((q3 - (1 : Int64)) * q2)) - q2)) < (-((q1 - ((q3 - (1 : Int64)) * q2)) - q2))
            · skip
              obtain ⟨fs, hr, hrun, hended, hW, hsame⟩ := X0.leave (v := some (.int (0 : Int32))) (fun h => by rw [Bd.returns] at h; cases h) (by first | exact BodyLoose.notSynchronized Bd | exact Body.notSynchronized Bd)
              refine ⟨_, _, pre16 _ ?_, hrun, hended, _, _, rfl, ?_, ⟨_, rfl⟩, hW, hsame.mono (by decide) (by decide)⟩
              · show Steps p.tables e below (s₁.setTop (mkF m 100 #[.val (.long q1), .second, .val (.long q2), .second, .val (.long q3), .second, .val (.long (q3 - (1 : Int64))), .second, .val (.long ((q3 - (1 : Int64)) * q2)), .second, .val (.long ((q1 - ((q3 - (1 : Int64)) * q2)) - q2)), .second] [(.int (lcmpW (-((q1 - ((q3 - (1 : Int64)) * q2)) - q2)) (q2 + ((q1 - ((q3 - (1 : Int64)) * q2)) - q2))))])) _
                refine XS.ifYes X0.here hx rfl (pc0 := 100) (pc' := 107) rfl (hb hby d2_100) rfl ((if0 _ _).trans (tlt ((lw_gt _ _).mpr hc17)).2.2.1) (by decide) (by decide) ?_
                show Steps p.tables e below (s₁.setTop (mkF m 107 _ [])) _
                refine XS.iconst X0.here hx rfl (hb hby d2_107) ?_
                show Steps p.tables e below (s₁.setTop (mkF m 108 #[.val (.long q1), .second, .val (.long q2), .second, .val (.long q3), .second, .val (.long (q3 - (1 : Int64))), .second, .val (.long ((q3 - (1 : Int64)) * q2)), .second, .val (.long ((q1 - ((q3 - (1 : Int64)) * q2)) - q2)), .second] [(.int (0 : Int32))])) _
                exact retN X0 hx (t := .boolean) Bd.returns (by simp) (hb hby d2_108) hr
              · show Q2 Z q1 q2 q3 h0 n0 _ s₁.heap _
                rw [e0]
                exact ⟨congrArg (fun z => some (Value.int z)) (by rw [f2, if_neg hc5, if_neg hc7, if_pos hc11, if_neg hc13, if_pos hc15, if_pos hc17] : f2 q1 q2 q3 = (0 : Int32)).symm, N0, rfl⟩
            · skip
              obtain ⟨fs, hr, hrun, hended, hW, hsame⟩ := X0.leave (v := some (.int (1 : Int32))) (fun h => by rw [Bd.returns] at h; cases h) (by first | exact BodyLoose.notSynchronized Bd | exact Body.notSynchronized Bd)
              refine ⟨_, _, pre16 _ ?_, hrun, hended, _, _, rfl, ?_, ⟨_, rfl⟩, hW, hsame.mono (by decide) (by decide)⟩
              · show Steps p.tables e below (s₁.setTop (mkF m 100 #[.val (.long q1), .second, .val (.long q2), .second, .val (.long q3), .second, .val (.long (q3 - (1 : Int64))), .second, .val (.long ((q3 - (1 : Int64)) * q2)), .second, .val (.long ((q1 - ((q3 - (1 : Int64)) * q2)) - q2)), .second] [(.int (lcmpW (-((q1 - ((q3 - (1 : Int64)) * q2)) - q2)) (q2 + ((q1 - ((q3 - (1 : Int64)) * q2)) - q2))))])) _
                refine XS.ifNo X0.here hx rfl (hb hby d2_100) rfl ((if0 _ _).trans (flt (mt (lw_gt _ _).mp hc17)).2.2.1) ?_
                show Steps p.tables e below (s₁.setTop (mkF m 103 _ [])) _
                refine XS.iconst X0.here hx rfl (hb hby d2_103) ?_
                show Steps p.tables e below (s₁.setTop (mkF m 104 _ [(.int (1 : Int32))])) _
                refine XS.goto X0.here hx rfl (pc0 := 104) (pc' := 108) rfl (hb hby d2_104) (by decide) (by decide) ?_
                show Steps p.tables e below (s₁.setTop (mkF m 108 #[.val (.long q1), .second, .val (.long q2), .second, .val (.long q3), .second, .val (.long (q3 - (1 : Int64))), .second, .val (.long ((q3 - (1 : Int64)) * q2)), .second, .val (.long ((q1 - ((q3 - (1 : Int64)) * q2)) - q2)), .second] [(.int (1 : Int32))])) _
                exact retN X0 hx (t := .boolean) Bd.returns (by simp) (hb hby d2_108) hr
              · show Q2 Z q1 q2 q3 h0 n0 _ s₁.heap _
                rw [e0]
                exact ⟨congrArg (fun z => some (Value.int z)) (by rw [f2, if_neg hc5, if_neg hc7, if_pos hc11, if_neg hc13, if_pos hc15, if_neg hc17] : f2 q1 q2 q3 = (1 : Int32)).symm, N0, rfl⟩
          · skip
            have pre18 : ∀ t, Steps p.tables e below (s₁.setTop (mkF m 83 #[.val (.long q1), .second, .val (.long q2), .second, .val (.long q3), .second, .val (.long (q3 - (1 : Int64))), .second, .val (.long ((q3 - (1 : Int64)) * q2)), .second, .val (.long ((q1 - ((q3 - (1 : Int64)) * q2)) - q2)), .second] [(.int (lcmpW ((q1 - ((q3 - (1 : Int64)) * q2)) - q2) (q2 - ((q1 - ((q3 - (1 : Int64)) * q2)) - q2))))])) t → Steps p.tables e below (s₁.setTop (entryFrame m #[(.long q1), (.long q2), (.long q3)] 12)) t := fun t kt => by
              refine pre14 _ ?_
              show Steps p.tables e below (s₁.setTop (mkF m 73 #[.val (.long q1), .second, .val (.long q2), .second, .val (.long q3), .second, .val (.long (q3 - (1 : Int64))), .second, .val (.long ((q3 - (1 : Int64)) * q2)), .second, .val (.long ((q1 - ((q3 - (1 : Int64)) * q2)) - q2)), .second] [(.int (lcmpW ((q1 - ((q3 - (1 : Int64)) * q2)) - q2) (0 : Int64)))])) _
              refine XS.ifNo X0.here hx rfl (hb hby d2_73) rfl ((if0 _ _).trans (flt (mt (lw_lt _ _).mp hc15)).1) ?_
              show Steps p.tables e below (s₁.setTop (mkF m 76 _ [])) _
              refine XS.lload X0.here hx rfl (hb hby d2_76) rfl ?_
              show Steps p.tables e below (s₁.setTop (mkF m 78 _ [(.long ((q1 - ((q3 - (1 : Int64)) * q2)) - q2))])) _
              refine XS.lloadN X0.here hx rfl (hb hby d2_78) rfl ?_
              show Steps p.tables e below (s₁.setTop (mkF m 79 _ [(.long q2), (.long ((q1 - ((q3 - (1 : Int64)) * q2)) - q2))])) _
              refine XS.lload X0.here hx rfl (hb hby d2_79) rfl ?_
              show Steps p.tables e below (s₁.setTop (mkF m 81 _ [(.long ((q1 - ((q3 - (1 : Int64)) * q2)) - q2)), (.long q2), (.long ((q1 - ((q3 - (1 : Int64)) * q2)) - q2))])) _
              refine XS.lsub X0.here hx rfl (hb hby d2_81) rfl ?_
              show Steps p.tables e below (s₁.setTop (mkF m 82 _ [(.long (q2 - ((q1 - ((q3 - (1 : Int64)) * q2)) - q2))), (.long ((q1 - ((q3 - (1 : Int64)) * q2)) - q2))])) _
              refine XS.lcmp X0.here hx rfl (hb hby d2_82) rfl ?_
              exact kt
            by_cases hc19 : ((q1 - ((q3 - (1 : Int64)) * q2)) - q2) < (q2 - ((q1 - ((q3 - (1 : Int64)) * q2)) - q2))
            · skip
              obtain ⟨fs, hr, hrun, hended, hW, hsame⟩ := X0.leave (v := some (.int (1 : Int32))) (fun h => by rw [Bd.returns] at h; cases h) (by first | exact BodyLoose.notSynchronized Bd | exact Body.notSynchronized Bd)
              refine ⟨_, _, pre18 _ ?_, hrun, hended, _, _, rfl, ?_, ⟨_, rfl⟩, hW, hsame.mono (by decide) (by decide)⟩
              · show Steps p.tables e below (s₁.setTop (mkF m 83 #[.val (.long q1), .second, .val (.long q2), .second, .val (.long q3), .second, .val (.long (q3 - (1 : Int64))), .second, .val (.long ((q3 - (1 : Int64)) * q2)), .second, .val (.long ((q1 - ((q3 - (1 : Int64)) * q2)) - q2)), .second] [(.int (lcmpW ((q1 - ((q3 - (1 : Int64)) * q2)) - q2) (q2 - ((q1 - ((q3 - (1 : Int64)) * q2)) - q2))))])) _
                refine XS.ifNo X0.here hx rfl (hb hby d2_83) rfl ((if0 _ _).trans (tlt ((lw_lt _ _).mpr hc19)).2.1) ?_
                show Steps p.tables e below (s₁.setTop (mkF m 86 _ [])) _
                refine XS.iconst X0.here hx rfl (hb hby d2_86) ?_
                show Steps p.tables e below (s₁.setTop (mkF m 87 _ [(.int (1 : Int32))])) _
                refine XS.goto X0.here hx rfl (pc0 := 87) (pc' := 91) rfl (hb hby d2_87) (by decide) (by decide) ?_
                show Steps p.tables e below (s₁.setTop (mkF m 91 #[.val (.long q1), .second, .val (.long q2), .second, .val (.long q3), .second, .val (.long (q3 - (1 : Int64))), .second, .val (.long ((q3 - (1 : Int64)) * q2)), .second, .val (.long ((q1 - ((q3 - (1 : Int64)) * q2)) - q2)), .second] [(.int (1 : Int32))])) _
                exact retN X0 hx (t := .boolean) Bd.returns (by simp) (hb hby d2_91) hr
              · show Q2 Z q1 q2 q3 h0 n0 _ s₁.heap _
                rw [e0]
                exact ⟨congrArg (fun z => some (Value.int z)) (by rw [f2, if_neg hc5, if_neg hc7, if_pos hc11, if_neg hc13, if_neg hc15, if_pos hc19] : f2 q1 q2 q3 = (1 : Int32)).symm, N0, rfl⟩
            · skip
              obtain ⟨fs, hr, hrun, hended, hW, hsame⟩ := X0.leave (v := some (.int (0 : Int32))) (fun h => by rw [Bd.returns] at h; cases h) (by first | exact BodyLoose.notSynchronized Bd | exact Body.notSynchronized Bd)
              refine ⟨_, _, pre18 _ ?_, hrun, hended, _, _, rfl, ?_, ⟨_, rfl⟩, hW, hsame.mono (by decide) (by decide)⟩
              · show Steps p.tables e below (s₁.setTop (mkF m 83 #[.val (.long q1), .second, .val (.long q2), .second, .val (.long q3), .second, .val (.long (q3 - (1 : Int64))), .second, .val (.long ((q3 - (1 : Int64)) * q2)), .second, .val (.long ((q1 - ((q3 - (1 : Int64)) * q2)) - q2)), .second] [(.int (lcmpW ((q1 - ((q3 - (1 : Int64)) * q2)) - q2) (q2 - ((q1 - ((q3 - (1 : Int64)) * q2)) - q2))))])) _
                refine XS.ifYes X0.here hx rfl (pc0 := 83) (pc' := 90) rfl (hb hby d2_83) rfl ((if0 _ _).trans (flt (mt (lw_lt _ _).mp hc19)).2.1) (by decide) (by decide) ?_
                show Steps p.tables e below (s₁.setTop (mkF m 90 _ [])) _
                refine XS.iconst X0.here hx rfl (hb hby d2_90) ?_
                show Steps p.tables e below (s₁.setTop (mkF m 91 #[.val (.long q1), .second, .val (.long q2), .second, .val (.long q3), .second, .val (.long (q3 - (1 : Int64))), .second, .val (.long ((q3 - (1 : Int64)) * q2)), .second, .val (.long ((q1 - ((q3 - (1 : Int64)) * q2)) - q2)), .second] [(.int (0 : Int32))])) _
                exact retN X0 hx (t := .boolean) Bd.returns (by simp) (hb hby d2_91) hr
              · show Q2 Z q1 q2 q3 h0 n0 _ s₁.heap _
                rw [e0]
                exact ⟨congrArg (fun z => some (Value.int z)) (by rw [f2, if_neg hc5, if_neg hc7, if_pos hc11, if_neg hc13, if_neg hc15, if_neg hc19] : f2 q1 q2 q3 = (0 : Int32)).symm, N0, rfl⟩
      · skip
        obtain ⟨fs, hr, hrun, hended, hW, hsame⟩ := X0.leave (v := some (.int (0 : Int32))) (fun h => by rw [Bd.returns] at h; cases h) (by first | exact BodyLoose.notSynchronized Bd | exact Body.notSynchronized Bd)
        refine ⟨_, _, pre10 _ ?_, hrun, hended, _, _, rfl, ?_, ⟨_, rfl⟩, hW, hsame.mono (by decide) (by decide)⟩
        · show Steps p.tables e below (s₁.setTop (mkF m 49 #[.val (.long q1), .second, .val (.long q2), .second, .val (.long q3), .second, .val (.long (q3 - (1 : Int64))), .second, .val (.long ((q3 - (1 : Int64)) * q2)), .second, .unset, .unset] [(.int (lcmpW (((q3 - (1 : Int64)) * q2) / q2) (q3 - (1 : Int64))))])) _
          refine XS.ifYes X0.here hx rfl (pc0 := 49) (pc' := 59) rfl (hb hby d2_49) rfl ((if0 _ _).trans (feq (mt (lw_eq _ _).mp hc11)).2) (by decide) (by decide) ?_
          show Steps p.tables e below (s₁.setTop (mkF m 59 _ [])) _
          refine XS.iconst X0.here hx rfl (hb hby d2_59) ?_
          show Steps p.tables e below (s₁.setTop (mkF m 60 #[.val (.long q1), .second, .val (.long q2), .second, .val (.long q3), .second, .val (.long (q3 - (1 : Int64))), .second, .val (.long ((q3 - (1 : Int64)) * q2)), .second, .unset, .unset] [(.int (0 : Int32))])) _
          exact retN X0 hx (t := .boolean) Bd.returns (by simp) (hb hby d2_60) hr
        · show Q2 Z q1 q2 q3 h0 n0 _ s₁.heap _
          rw [e0]
          exact ⟨congrArg (fun z => some (Value.int z)) (by rw [f2, if_neg hc5, if_neg hc7, if_neg hc11] : f2 q1 q2 q3 = (0 : Int32)).symm, N0, rfl⟩
theorem pn_0 : plainName "com/example/creditree/creditree/MoneyPercentInHundredthsPinLaw" = true := by first | (simp [plainName, overriddenIn]; done) | decide +kernel
theorem pd_0_0 : parseMethodDescriptor "(JJ)J" = some ⟨[.long, .long], some .long⟩ := by decide +kernel
theorem pd_0_1 : parseMethodDescriptor "(JJJ)Z" = some ⟨[.long, .long, .long], some .boolean⟩ := by decide +kernel
theorem ef_0 (m : MethodId) (x0 : Int64) (x1 : Int64) (x2 : Int32) : entryFrame m #[(.long x0), (.long x1), (.int x2)] maxLocals = mkF m 0 #[.val (.long x0), .second, .val (.long x1), .second, .val (.int x2), .unset, .unset, .unset, .unset, .unset, .unset, .unset] [] := by first | (simp [entryFrame, mkF, argsToLocals, Value.category, maxLocals]; done) | rfl
def f0 (q1 : Int64) (q2 : Int64) (p3 : Int32) : Int32 := (if (p3 &&& (3 : Int32)) = (0 : Int32) then (if q1 < (0 : Int64) then (if (f1 q1 q2) = (-9223372036854775808 : Int64) then (1 : Int32) else (0 : Int32)) else (if (922337203685477 : Int64) < q1 then (if (f1 q1 q2) = (-9223372036854775808 : Int64) then (1 : Int32) else (0 : Int32)) else (if (0 : Int64) < q2 then (nar .boolean (f2 (q1 * (10000 : Int64)) q2 (f1 q1 q2))) else (if (f1 q1 q2) = (-9223372036854775808 : Int64) then (1 : Int32) else (0 : Int32))))) else (if (p3 &&& (3 : Int32)) = (1 : Int32) then (if (own_part q1) < (0 : Int64) then (if (f1 (own_part q1) (q2 &&& (9223372036854775807 : Int64))) = (-9223372036854775808 : Int64) then (1 : Int32) else (0 : Int32)) else (if (922337203685477 : Int64) < (own_part q1) then (if (f1 (own_part q1) (q2 &&& (9223372036854775807 : Int64))) = (-9223372036854775808 : Int64) then (1 : Int32) else (0 : Int32)) else (if (0 : Int64) < (q2 &&& (9223372036854775807 : Int64)) then (nar .boolean (f2 ((own_part q1) * (10000 : Int64)) (q2 &&& (9223372036854775807 : Int64)) (f1 (own_part q1) (q2 &&& (9223372036854775807 : Int64))))) else (if (f1 (own_part q1) (q2 &&& (9223372036854775807 : Int64))) = (-9223372036854775808 : Int64) then (1 : Int32) else (0 : Int32))))) else (if (p3 &&& (3 : Int32)) = (2 : Int32) then (if (own_part q1) < (0 : Int64) then (if (f1 (own_part q1) (own_w2 q2)) = (-9223372036854775808 : Int64) then (1 : Int32) else (0 : Int32)) else (if (922337203685477 : Int64) < (own_part q1) then (if (f1 (own_part q1) (own_w2 q2)) = (-9223372036854775808 : Int64) then (1 : Int32) else (0 : Int32)) else (if (0 : Int64) < (own_w2 q2) then (nar .boolean (f2 ((own_part q1) * (10000 : Int64)) (own_w2 q2) (f1 (own_part q1) (own_w2 q2)))) else (if (f1 (own_part q1) (own_w2 q2)) = (-9223372036854775808 : Int64) then (1 : Int32) else (0 : Int32))))) else (if (own_part q1) < (0 : Int64) then (if (f1 (own_part q1) (own_w3 q1 q2)) = (-9223372036854775808 : Int64) then (1 : Int32) else (0 : Int32)) else (if (922337203685477 : Int64) < (own_part q1) then (if (f1 (own_part q1) (own_w3 q1 q2)) = (-9223372036854775808 : Int64) then (1 : Int32) else (0 : Int32)) else (if (0 : Int64) < (own_w3 q1 q2) then (nar .boolean (f2 ((own_part q1) * (10000 : Int64)) (own_w3 q1 q2) (f1 (own_part q1) (own_w3 q1 q2)))) else (if (f1 (own_part q1) (own_w3 q1 q2)) = (-9223372036854775808 : Int64) then (1 : Int32) else (0 : Int32))))))))
def Q0 (Z : State) (q1 : Int64) (q2 : Int64) (p3 : Int32) (h0 : Heap) (n0 : Nat) (v : Option Value) (h : Heap) (L : List Loc) : Prop := v = some (.int (f0 q1 q2 p3)) ∧ Fr n0 L
set_option maxRecDepth 65536 in
set_option maxHeartbeats 40000000 in
theorem rm0 (l : Launch) (Z : State) (a0 : Array Value) (hw : ∀ d ∈ tables_1, d.before a0 Z = true) (ws : List Jvm.Cond) (q1 : Int64) (q2 : Int64) (p3 : Int32) (h0 : Heap) (n0 : Nat) (Z0 : n0 ≤ h0.size) :
    MetFree l x (head1 (Jvm.Cond.code x code maxLocals ret :: ws) room_1) (fun a U => a = #[(.long q1), (.long q2), (.int p3)] ∧ Z.Warmed39 U.vm ∧ U.heap = h0) (fun _ _ _ _ _ => True) (fun _ U o U' => ∃ v L, o = .returned v ∧ Q0 Z q1 q2 p3 h0 n0 v U'.heap L ∧ FrameEnd U o U' L room_1.cells room_1.slots) := by
  refine MetFree.of_bodySF (plainFor_of_name pn_0) hisR ?_
  intro p e s m args below meth c s₁ Bd hml0 hP hK
  obtain ⟨rfl, hZ, hh⟩ := hP
  have hx := Bd.exec
  have hby := Bd.bytes
  have hml : c.maxLocals = 12 := hml0
  have hown : s.vm.findClass "com/example/creditree/creditree/MoneyPercentInHundredthsPinLaw" = some m.cls := findClass_of_methodNamed Bd.named
  have hnm := (name_of_methodNamed Bd.named Bd.method).1
  have X0 : Stand p l e room_1 s m #[(.long q1), (.long q2), (.int p3)] below meth c s₁ [] 0 0 := Stand.of_body Bd
  have e0 : s₁.heap = h0 := by rw [← hh, Bd.state]; rfl
  have N0 := Fr.nil n0
  have pre0 : ∀ t, Steps p.tables e below (s₁.setTop (mkF m 0 #[.val (.long q1), .second, .val (.long q2), .second, .val (.int p3), .unset, .unset, .unset, .unset, .unset, .unset, .unset] [])) t → Steps p.tables e below (s₁.setTop (entryFrame m #[(.long q1), (.long q2), (.int p3)] maxLocals)) t := fun t k => castTop (ef_0 m q1 q2 p3) k
  have pre4 : ∀ t, Steps p.tables e below (s₁.setTop (mkF m 8 #[.val (.long q1), .second, .val (.long q2), .second, .val (.int p3), .unset, .unset, .unset, .unset, .val (.int (p3 &&& (3 : Int32))), .unset, .unset] [(.int (p3 &&& (3 : Int32)))])) t → Steps p.tables e below (s₁.setTop (entryFrame m #[(.long q1), (.long q2), (.int p3)] maxLocals)) t := fun t kt => by
    refine pre0 _ ?_
    show Steps p.tables e below (s₁.setTop (mkF m 0 #[.val (.long q1), .second, .val (.long q2), .second, .val (.int p3), .unset, .unset, .unset, .unset, .unset, .unset, .unset] [])) _
    refine XS.iload X0.here hx rfl (hb hby at_0) rfl ?_
    show Steps p.tables e below (s₁.setTop (mkF m 2 _ [(.int p3)])) _
    refine XS.iconst X0.here hx rfl (hb hby at_2) ?_
    show Steps p.tables e below (s₁.setTop (mkF m 3 _ [(.int (3 : Int32)), (.int p3)])) _
    refine XS.iand X0.here hx rfl (hb hby at_3) rfl ?_
    show Steps p.tables e below (s₁.setTop (mkF m 4 _ [(.int (p3 &&& (3 : Int32)))])) _
    refine XS.istore X0.here hx rfl (hb hby at_4) rfl (l' := #[.val (.long q1), .second, .val (.long q2), .second, .val (.int p3), .unset, .unset, .unset, .unset, .val (.int (p3 &&& (3 : Int32))), .unset, .unset]) rfl ?_
    show Steps p.tables e below (s₁.setTop (mkF m 6 _ [])) _
    refine XS.iload X0.here hx rfl (hb hby at_6) rfl ?_
    exact kt
  by_cases hc5 : (p3 &&& (3 : Int32)) = (0 : Int32)
  · skip
    obtain ⟨_, _, ⟨T6, L6, k6, n6⟩, -, X6, ⟨Lc6, hQ6, l6, y6, z6⟩, st6⟩ := Jvm.LawKit.callS X0 hx (y := (⟨"com/example/creditree/creditree/Money", "percentInHundredths", "(JJ)J"⟩ : MethodName)) hown (mvT hZ (hw _ (List.mem_of_getElem? (i := 0) rfl))) (mvT hZ (hw _ (List.mem_of_getElem? (i := 1) rfl))) (mvT hZ (hw _ (List.mem_of_getElem? (i := 2) rfl))) (mvT hZ (hw _ (List.mem_of_getElem? (i := 3) rfl))) (by decide) (backOf (W := 0) (rm1 l Z a0 hw [] q1 q2 h0 n0 Z0 ) hZ (hw _ (List.mem_of_getElem? (i := 3) rfl)) (hw _ (List.mem_of_getElem? (i := 2) rfl)) (by decide) (by decide)) (g := (mkF m 89 #[.val (.long q1), .second, .val (.long q2), .second, .val (.int p3), .val (.long q1), .second, .val (.long q2), .second, .val (.int (p3 &&& (3 : Int32))), .unset, .unset] [(.long q2), (.long q1)])) rfl (by rw [hml]; rfl) (argsL := [(.long q1), (.long q2)]) (rest := []) (lenOf pd_0_0 rfl) rfl (by show 2 * 0 + _ ≤ _; exact Nat.le_of_eq rfl) (hb hby at_89) (fun _ _ => ⟨rfl, e0, (by decide : 0 + 0 ≤ _), (by decide : 0 + 0 ≤ _)⟩)
    dsimp only [Pt.U, Pt.locs, Pt.cells, Pt.slots] at X6 l6 y6 z6 st6 hQ6
    subst l6 y6 z6
    obtain ⟨rfl, N6q, e6⟩ := hQ6
    have N6 := Fr.app N0 N6q
    have pre7 : ∀ t, Steps p.tables e below (T6.setTop (mkF m 98 #[.val (.long q1), .second, .val (.long q2), .second, .val (.int p3), .val (.long q1), .second, .val (.long q2), .second, .val (.int (p3 &&& (3 : Int32))), .val (.long (f1 q1 q2)), .second] [(.int (lcmpW q1 (0 : Int64)))])) t → Steps p.tables e below (s₁.setTop (entryFrame m #[(.long q1), (.long q2), (.int p3)] maxLocals)) t := fun t kt => by
      refine pre4 _ ?_
      show Steps p.tables e below (s₁.setTop (mkF m 8 #[.val (.long q1), .second, .val (.long q2), .second, .val (.int p3), .unset, .unset, .unset, .unset, .val (.int (p3 &&& (3 : Int32))), .unset, .unset] [(.int (p3 &&& (3 : Int32)))])) _
      refine XS.ifNo X0.here hx rfl (hb hby at_8) rfl ((if0 _ _).trans (teq hc5).2) ?_
      show Steps p.tables e below (s₁.setTop (mkF m 11 _ [])) _
      refine XS.lloadN X0.here hx rfl (hb hby at_11) rfl ?_
      show Steps p.tables e below (s₁.setTop (mkF m 12 _ [(.long q1)])) _
      refine XS.lstore X0.here hx rfl (hb hby at_12) rfl (l' := #[.val (.long q1), .second, .val (.long q2), .second, .val (.int p3), .val (.long q1), .second, .unset, .unset, .val (.int (p3 &&& (3 : Int32))), .unset, .unset]) rfl ?_
      show Steps p.tables e below (s₁.setTop (mkF m 14 _ [])) _
      refine XS.lloadN X0.here hx rfl (hb hby at_14) rfl ?_
      show Steps p.tables e below (s₁.setTop (mkF m 15 _ [(.long q2)])) _
      refine XS.lstore X0.here hx rfl (hb hby at_15) rfl (l' := #[.val (.long q1), .second, .val (.long q2), .second, .val (.int p3), .val (.long q1), .second, .val (.long q2), .second, .val (.int (p3 &&& (3 : Int32))), .unset, .unset]) rfl ?_
      show Steps p.tables e below (s₁.setTop (mkF m 17 _ [])) _
      refine XS.goto X0.here hx rfl (pc0 := 17) (pc' := 85) rfl (hb hby at_17) (by decide) (by decide) ?_
      show Steps p.tables e below (s₁.setTop (mkF m 85 _ [])) _
      refine XS.lload X0.here hx rfl (hb hby at_85) rfl ?_
      show Steps p.tables e below (s₁.setTop (mkF m 87 _ [(.long q1)])) _
      refine XS.lload X0.here hx rfl (hb hby at_87) rfl ?_
      show Steps p.tables e below (s₁.setTop (mkF m 89 _ [(.long q2), (.long q1)])) _
      refine st6 _ ?_
      show Steps p.tables e below (T6.setTop (mkF m 92 _ [(.long (f1 q1 q2))])) _
      refine XS.lstore X6.here hx rfl (hb hby at_92) rfl (l' := #[.val (.long q1), .second, .val (.long q2), .second, .val (.int p3), .val (.long q1), .second, .val (.long q2), .second, .val (.int (p3 &&& (3 : Int32))), .val (.long (f1 q1 q2)), .second]) rfl ?_
      show Steps p.tables e below (T6.setTop (mkF m 94 _ [])) _
      refine XS.lload X6.here hx rfl (hb hby at_94) rfl ?_
      show Steps p.tables e below (T6.setTop (mkF m 96 _ [(.long q1)])) _
      refine XS.lconst X6.here hx rfl (hb hby at_96) ?_
      show Steps p.tables e below (T6.setTop (mkF m 97 _ [(.long (0 : Int64)), (.long q1)])) _
      refine XS.lcmp X6.here hx rfl (hb hby at_97) rfl ?_
      exact kt
    by_cases hc8 : q1 < (0 : Int64)
    · skip
      have pre9 : ∀ t, Steps p.tables e below (T6.setTop (mkF m 123 #[.val (.long q1), .second, .val (.long q2), .second, .val (.int p3), .val (.long q1), .second, .val (.long q2), .second, .val (.int (p3 &&& (3 : Int32))), .val (.long (f1 q1 q2)), .second] [(.int (lcmpW (f1 q1 q2) (-9223372036854775808 : Int64)))])) t → Steps p.tables e below (s₁.setTop (entryFrame m #[(.long q1), (.long q2), (.int p3)] maxLocals)) t := fun t kt => by
        refine pre7 _ ?_
        show Steps p.tables e below (T6.setTop (mkF m 98 #[.val (.long q1), .second, .val (.long q2), .second, .val (.int p3), .val (.long q1), .second, .val (.long q2), .second, .val (.int (p3 &&& (3 : Int32))), .val (.long (f1 q1 q2)), .second] [(.int (lcmpW q1 (0 : Int64)))])) _
        refine XS.ifYes X6.here hx rfl (pc0 := 98) (pc' := 117) rfl (hb hby at_98) rfl ((if0 _ _).trans (tlt ((lw_lt _ _).mpr hc8)).1) (by decide) (by decide) ?_
        show Steps p.tables e below (T6.setTop (mkF m 117 _ [])) _
        refine XS.lload X6.here hx rfl (hb hby at_117) rfl ?_
        show Steps p.tables e below (T6.setTop (mkF m 119 _ [(.long (f1 q1 q2))])) _
        refine X6.ldc2Long hx hown (mvT hZ (hw _ (List.mem_of_getElem? (i := 15) rfl))) (g := (mkF m 119 #[.val (.long q1), .second, .val (.long q2), .second, .val (.int p3), .val (.long q1), .second, .val (.long q2), .second, .val (.int (p3 &&& (3 : Int32))), .val (.long (f1 q1 q2)), .second] [(.long (f1 q1 q2))])) rfl (hb hby at_119) _ ?_
        show Steps p.tables e below (T6.setTop (mkF m 122 _ [(.long (-9223372036854775808 : Int64)), (.long (f1 q1 q2))])) _
        refine XS.lcmp X6.here hx rfl (hb hby at_122) rfl ?_
        exact kt
      by_cases hc10 : (f1 q1 q2) = (-9223372036854775808 : Int64)
      · skip
        obtain ⟨fs, hr, hrun, hended, hW, hsame⟩ := X6.leave (v := some (.int (1 : Int32))) (fun h => by rw [Bd.returns] at h; cases h) (by first | exact BodyLoose.notSynchronized Bd | exact Body.notSynchronized Bd)
        refine ⟨_, _, pre9 _ ?_, hrun, hended, _, _, rfl, ?_, ⟨_, rfl⟩, hW, hsame.mono (by decide) (by decide)⟩
        · show Steps p.tables e below (T6.setTop (mkF m 123 #[.val (.long q1), .second, .val (.long q2), .second, .val (.int p3), .val (.long q1), .second, .val (.long q2), .second, .val (.int (p3 &&& (3 : Int32))), .val (.long (f1 q1 q2)), .second] [(.int (lcmpW (f1 q1 q2) (-9223372036854775808 : Int64)))])) _
          refine XS.ifNo X6.here hx rfl (hb hby at_123) rfl ((if0 _ _).trans (teq ((lw_eq _ _).mpr hc10)).2) ?_
          show Steps p.tables e below (T6.setTop (mkF m 126 _ [])) _
          refine XS.iconst X6.here hx rfl (hb hby at_126) ?_
          show Steps p.tables e below (T6.setTop (mkF m 127 _ [(.int (1 : Int32))])) _
          refine XS.goto X6.here hx rfl (pc0 := 127) (pc' := 131) rfl (hb hby at_127) (by decide) (by decide) ?_
          show Steps p.tables e below (T6.setTop (mkF m 131 #[.val (.long q1), .second, .val (.long q2), .second, .val (.int p3), .val (.long q1), .second, .val (.long q2), .second, .val (.int (p3 &&& (3 : Int32))), .val (.long (f1 q1 q2)), .second] [(.int (1 : Int32))])) _
          exact retN X6 hx (t := .boolean) Bd.returns (by simp) (hb hby at_131) hr
        · show Q0 Z q1 q2 p3 h0 n0 _ T6.heap _
          rw [e6]
          exact ⟨congrArg (fun z => some (Value.int z)) (by rw [f0, if_pos hc5, if_pos hc8, if_pos hc10] : f0 q1 q2 p3 = (1 : Int32)).symm, N6⟩
      · skip
        obtain ⟨fs, hr, hrun, hended, hW, hsame⟩ := X6.leave (v := some (.int (0 : Int32))) (fun h => by rw [Bd.returns] at h; cases h) (by first | exact BodyLoose.notSynchronized Bd | exact Body.notSynchronized Bd)
        refine ⟨_, _, pre9 _ ?_, hrun, hended, _, _, rfl, ?_, ⟨_, rfl⟩, hW, hsame.mono (by decide) (by decide)⟩
        · show Steps p.tables e below (T6.setTop (mkF m 123 #[.val (.long q1), .second, .val (.long q2), .second, .val (.int p3), .val (.long q1), .second, .val (.long q2), .second, .val (.int (p3 &&& (3 : Int32))), .val (.long (f1 q1 q2)), .second] [(.int (lcmpW (f1 q1 q2) (-9223372036854775808 : Int64)))])) _
          refine XS.ifYes X6.here hx rfl (pc0 := 123) (pc' := 130) rfl (hb hby at_123) rfl ((if0 _ _).trans (feq (mt (lw_eq _ _).mp hc10)).2) (by decide) (by decide) ?_
          show Steps p.tables e below (T6.setTop (mkF m 130 _ [])) _
          refine XS.iconst X6.here hx rfl (hb hby at_130) ?_
          show Steps p.tables e below (T6.setTop (mkF m 131 #[.val (.long q1), .second, .val (.long q2), .second, .val (.int p3), .val (.long q1), .second, .val (.long q2), .second, .val (.int (p3 &&& (3 : Int32))), .val (.long (f1 q1 q2)), .second] [(.int (0 : Int32))])) _
          exact retN X6 hx (t := .boolean) Bd.returns (by simp) (hb hby at_131) hr
        · show Q0 Z q1 q2 p3 h0 n0 _ T6.heap _
          rw [e6]
          exact ⟨congrArg (fun z => some (Value.int z)) (by rw [f0, if_pos hc5, if_pos hc8, if_neg hc10] : f0 q1 q2 p3 = (0 : Int32)).symm, N6⟩
    · skip
      have pre11 : ∀ t, Steps p.tables e below (T6.setTop (mkF m 107 #[.val (.long q1), .second, .val (.long q2), .second, .val (.int p3), .val (.long q1), .second, .val (.long q2), .second, .val (.int (p3 &&& (3 : Int32))), .val (.long (f1 q1 q2)), .second] [(.int (lcmpW q1 (922337203685477 : Int64)))])) t → Steps p.tables e below (s₁.setTop (entryFrame m #[(.long q1), (.long q2), (.int p3)] maxLocals)) t := fun t kt => by
        refine pre7 _ ?_
        show Steps p.tables e below (T6.setTop (mkF m 98 #[.val (.long q1), .second, .val (.long q2), .second, .val (.int p3), .val (.long q1), .second, .val (.long q2), .second, .val (.int (p3 &&& (3 : Int32))), .val (.long (f1 q1 q2)), .second] [(.int (lcmpW q1 (0 : Int64)))])) _
        refine XS.ifNo X6.here hx rfl (hb hby at_98) rfl ((if0 _ _).trans (flt (mt (lw_lt _ _).mp hc8)).1) ?_
        show Steps p.tables e below (T6.setTop (mkF m 101 _ [])) _
        refine XS.lload X6.here hx rfl (hb hby at_101) rfl ?_
        show Steps p.tables e below (T6.setTop (mkF m 103 _ [(.long q1)])) _
        refine X6.ldc2Long hx hown (mvT hZ (hw _ (List.mem_of_getElem? (i := 6) rfl))) (g := (mkF m 103 #[.val (.long q1), .second, .val (.long q2), .second, .val (.int p3), .val (.long q1), .second, .val (.long q2), .second, .val (.int (p3 &&& (3 : Int32))), .val (.long (f1 q1 q2)), .second] [(.long q1)])) rfl (hb hby at_103) _ ?_
        show Steps p.tables e below (T6.setTop (mkF m 106 _ [(.long (922337203685477 : Int64)), (.long q1)])) _
        refine XS.lcmp X6.here hx rfl (hb hby at_106) rfl ?_
        exact kt
      by_cases hc12 : (922337203685477 : Int64) < q1
      · skip
        have pre13 : ∀ t, Steps p.tables e below (T6.setTop (mkF m 123 #[.val (.long q1), .second, .val (.long q2), .second, .val (.int p3), .val (.long q1), .second, .val (.long q2), .second, .val (.int (p3 &&& (3 : Int32))), .val (.long (f1 q1 q2)), .second] [(.int (lcmpW (f1 q1 q2) (-9223372036854775808 : Int64)))])) t → Steps p.tables e below (s₁.setTop (entryFrame m #[(.long q1), (.long q2), (.int p3)] maxLocals)) t := fun t kt => by
          refine pre11 _ ?_
          show Steps p.tables e below (T6.setTop (mkF m 107 #[.val (.long q1), .second, .val (.long q2), .second, .val (.int p3), .val (.long q1), .second, .val (.long q2), .second, .val (.int (p3 &&& (3 : Int32))), .val (.long (f1 q1 q2)), .second] [(.int (lcmpW q1 (922337203685477 : Int64)))])) _
          refine XS.ifYes X6.here hx rfl (pc0 := 107) (pc' := 117) rfl (hb hby at_107) rfl ((if0 _ _).trans (tlt ((lw_gt _ _).mpr hc12)).2.2.1) (by decide) (by decide) ?_
          show Steps p.tables e below (T6.setTop (mkF m 117 _ [])) _
          refine XS.lload X6.here hx rfl (hb hby at_117) rfl ?_
          show Steps p.tables e below (T6.setTop (mkF m 119 _ [(.long (f1 q1 q2))])) _
          refine X6.ldc2Long hx hown (mvT hZ (hw _ (List.mem_of_getElem? (i := 15) rfl))) (g := (mkF m 119 #[.val (.long q1), .second, .val (.long q2), .second, .val (.int p3), .val (.long q1), .second, .val (.long q2), .second, .val (.int (p3 &&& (3 : Int32))), .val (.long (f1 q1 q2)), .second] [(.long (f1 q1 q2))])) rfl (hb hby at_119) _ ?_
          show Steps p.tables e below (T6.setTop (mkF m 122 _ [(.long (-9223372036854775808 : Int64)), (.long (f1 q1 q2))])) _
          refine XS.lcmp X6.here hx rfl (hb hby at_122) rfl ?_
          exact kt
        by_cases hc14 : (f1 q1 q2) = (-9223372036854775808 : Int64)
        · skip
          obtain ⟨fs, hr, hrun, hended, hW, hsame⟩ := X6.leave (v := some (.int (1 : Int32))) (fun h => by rw [Bd.returns] at h; cases h) (by first | exact BodyLoose.notSynchronized Bd | exact Body.notSynchronized Bd)
          refine ⟨_, _, pre13 _ ?_, hrun, hended, _, _, rfl, ?_, ⟨_, rfl⟩, hW, hsame.mono (by decide) (by decide)⟩
          · show Steps p.tables e below (T6.setTop (mkF m 123 #[.val (.long q1), .second, .val (.long q2), .second, .val (.int p3), .val (.long q1), .second, .val (.long q2), .second, .val (.int (p3 &&& (3 : Int32))), .val (.long (f1 q1 q2)), .second] [(.int (lcmpW (f1 q1 q2) (-9223372036854775808 : Int64)))])) _
            refine XS.ifNo X6.here hx rfl (hb hby at_123) rfl ((if0 _ _).trans (teq ((lw_eq _ _).mpr hc14)).2) ?_
            show Steps p.tables e below (T6.setTop (mkF m 126 _ [])) _
            refine XS.iconst X6.here hx rfl (hb hby at_126) ?_
            show Steps p.tables e below (T6.setTop (mkF m 127 _ [(.int (1 : Int32))])) _
            refine XS.goto X6.here hx rfl (pc0 := 127) (pc' := 131) rfl (hb hby at_127) (by decide) (by decide) ?_
            show Steps p.tables e below (T6.setTop (mkF m 131 #[.val (.long q1), .second, .val (.long q2), .second, .val (.int p3), .val (.long q1), .second, .val (.long q2), .second, .val (.int (p3 &&& (3 : Int32))), .val (.long (f1 q1 q2)), .second] [(.int (1 : Int32))])) _
            exact retN X6 hx (t := .boolean) Bd.returns (by simp) (hb hby at_131) hr
          · show Q0 Z q1 q2 p3 h0 n0 _ T6.heap _
            rw [e6]
            exact ⟨congrArg (fun z => some (Value.int z)) (by rw [f0, if_pos hc5, if_neg hc8, if_pos hc12, if_pos hc14] : f0 q1 q2 p3 = (1 : Int32)).symm, N6⟩
        · skip
          obtain ⟨fs, hr, hrun, hended, hW, hsame⟩ := X6.leave (v := some (.int (0 : Int32))) (fun h => by rw [Bd.returns] at h; cases h) (by first | exact BodyLoose.notSynchronized Bd | exact Body.notSynchronized Bd)
          refine ⟨_, _, pre13 _ ?_, hrun, hended, _, _, rfl, ?_, ⟨_, rfl⟩, hW, hsame.mono (by decide) (by decide)⟩
          · show Steps p.tables e below (T6.setTop (mkF m 123 #[.val (.long q1), .second, .val (.long q2), .second, .val (.int p3), .val (.long q1), .second, .val (.long q2), .second, .val (.int (p3 &&& (3 : Int32))), .val (.long (f1 q1 q2)), .second] [(.int (lcmpW (f1 q1 q2) (-9223372036854775808 : Int64)))])) _
            refine XS.ifYes X6.here hx rfl (pc0 := 123) (pc' := 130) rfl (hb hby at_123) rfl ((if0 _ _).trans (feq (mt (lw_eq _ _).mp hc14)).2) (by decide) (by decide) ?_
            show Steps p.tables e below (T6.setTop (mkF m 130 _ [])) _
            refine XS.iconst X6.here hx rfl (hb hby at_130) ?_
            show Steps p.tables e below (T6.setTop (mkF m 131 #[.val (.long q1), .second, .val (.long q2), .second, .val (.int p3), .val (.long q1), .second, .val (.long q2), .second, .val (.int (p3 &&& (3 : Int32))), .val (.long (f1 q1 q2)), .second] [(.int (0 : Int32))])) _
            exact retN X6 hx (t := .boolean) Bd.returns (by simp) (hb hby at_131) hr
          · show Q0 Z q1 q2 p3 h0 n0 _ T6.heap _
            rw [e6]
            exact ⟨congrArg (fun z => some (Value.int z)) (by rw [f0, if_pos hc5, if_neg hc8, if_pos hc12, if_neg hc14] : f0 q1 q2 p3 = (0 : Int32)).symm, N6⟩
      · skip
        have pre15 : ∀ t, Steps p.tables e below (T6.setTop (mkF m 114 #[.val (.long q1), .second, .val (.long q2), .second, .val (.int p3), .val (.long q1), .second, .val (.long q2), .second, .val (.int (p3 &&& (3 : Int32))), .val (.long (f1 q1 q2)), .second] [(.int (lcmpW q2 (0 : Int64)))])) t → Steps p.tables e below (s₁.setTop (entryFrame m #[(.long q1), (.long q2), (.int p3)] maxLocals)) t := fun t kt => by
          refine pre11 _ ?_
          show Steps p.tables e below (T6.setTop (mkF m 107 #[.val (.long q1), .second, .val (.long q2), .second, .val (.int p3), .val (.long q1), .second, .val (.long q2), .second, .val (.int (p3 &&& (3 : Int32))), .val (.long (f1 q1 q2)), .second] [(.int (lcmpW q1 (922337203685477 : Int64)))])) _
          refine XS.ifNo X6.here hx rfl (hb hby at_107) rfl ((if0 _ _).trans (flt (mt (lw_gt _ _).mp hc12)).2.2.1) ?_
          show Steps p.tables e below (T6.setTop (mkF m 110 _ [])) _
          refine XS.lload X6.here hx rfl (hb hby at_110) rfl ?_
          show Steps p.tables e below (T6.setTop (mkF m 112 _ [(.long q2)])) _
          refine XS.lconst X6.here hx rfl (hb hby at_112) ?_
          show Steps p.tables e below (T6.setTop (mkF m 113 _ [(.long (0 : Int64)), (.long q2)])) _
          refine XS.lcmp X6.here hx rfl (hb hby at_113) rfl ?_
          exact kt
        by_cases hc16 : (0 : Int64) < q2
        · skip
          obtain ⟨_, _, ⟨T17, L17, k17, n17⟩, -, X17, ⟨Lc17, hQ17, l17, y17, z17⟩, st17⟩ := Jvm.LawKit.callS X6 hx (y := (⟨"com/example/creditree/creditree/MoneyPercentInHundredthsPinLaw", "isRounded", "(JJJ)Z"⟩ : MethodName)) hown (mvT hZ (hw _ (List.mem_of_getElem? (i := 8) rfl))) (mvT hZ (hw _ (List.mem_of_getElem? (i := 9) rfl))) (mvT hZ (hw _ (List.mem_of_getElem? (i := 10) rfl))) (mvT hZ (hw _ (List.mem_of_getElem? (i := 11) rfl))) (by decide) (backOf (W := 0) (rm2 l Z a0 hw [] (q1 * (10000 : Int64)) q2 (f1 q1 q2) h0 n0 Z0 (own_nz_J hc16)) hZ (hw _ (List.mem_of_getElem? (i := 11) rfl)) (hw _ (List.mem_of_getElem? (i := 10) rfl)) (by decide) (by decide)) (g := (mkF m 142 #[.val (.long q1), .second, .val (.long q2), .second, .val (.int p3), .val (.long q1), .second, .val (.long q2), .second, .val (.int (p3 &&& (3 : Int32))), .val (.long (f1 q1 q2)), .second] [(.long (f1 q1 q2)), (.long q2), (.long (q1 * (10000 : Int64)))])) rfl (by rw [hml]; rfl) (argsL := [(.long (q1 * (10000 : Int64))), (.long q2), (.long (f1 q1 q2))]) (rest := []) (lenOf pd_0_1 rfl) rfl (by show 2 * 0 + _ ≤ _; exact Nat.le_of_eq rfl) (hb hby at_142) (fun _ _ => ⟨rfl, e6, (by decide : 0 + 0 ≤ _), (by decide : 0 + 0 ≤ _)⟩)
          dsimp only [Pt.U, Pt.locs, Pt.cells, Pt.slots] at X17 l17 y17 z17 st17 hQ17
          subst l17 y17 z17
          obtain ⟨rfl, N17q, e17⟩ := hQ17
          have N17 := Fr.app N6 N17q
          obtain ⟨fs, hr, hrun, hended, hW, hsame⟩ := X17.leave (v := some (.int (nar .boolean (f2 (q1 * (10000 : Int64)) q2 (f1 q1 q2))))) (fun h => by rw [Bd.returns] at h; cases h) (by first | exact BodyLoose.notSynchronized Bd | exact Body.notSynchronized Bd)
          refine ⟨_, _, pre15 _ ?_, hrun, hended, _, _, rfl, ?_, ⟨_, rfl⟩, hW, hsame.mono (by decide) (by decide)⟩
          · show Steps p.tables e below (T6.setTop (mkF m 114 #[.val (.long q1), .second, .val (.long q2), .second, .val (.int p3), .val (.long q1), .second, .val (.long q2), .second, .val (.int (p3 &&& (3 : Int32))), .val (.long (f1 q1 q2)), .second] [(.int (lcmpW q2 (0 : Int64)))])) _
            refine XS.ifYes X6.here hx rfl (pc0 := 114) (pc' := 132) rfl (hb hby at_114) rfl ((if0 _ _).trans (tlt ((lw_gt _ _).mpr hc16)).2.2.1) (by decide) (by decide) ?_
            show Steps p.tables e below (T6.setTop (mkF m 132 _ [])) _
            refine XS.lload X6.here hx rfl (hb hby at_132) rfl ?_
            show Steps p.tables e below (T6.setTop (mkF m 134 _ [(.long q1)])) _
            refine X6.ldc2Long hx hown (mvT hZ (hw _ (List.mem_of_getElem? (i := 7) rfl))) (g := (mkF m 134 #[.val (.long q1), .second, .val (.long q2), .second, .val (.int p3), .val (.long q1), .second, .val (.long q2), .second, .val (.int (p3 &&& (3 : Int32))), .val (.long (f1 q1 q2)), .second] [(.long q1)])) rfl (hb hby at_134) _ ?_
            show Steps p.tables e below (T6.setTop (mkF m 137 _ [(.long (10000 : Int64)), (.long q1)])) _
            refine XS.lmul X6.here hx rfl (hb hby at_137) rfl ?_
            show Steps p.tables e below (T6.setTop (mkF m 138 _ [(.long (q1 * (10000 : Int64)))])) _
            refine XS.lload X6.here hx rfl (hb hby at_138) rfl ?_
            show Steps p.tables e below (T6.setTop (mkF m 140 _ [(.long q2), (.long (q1 * (10000 : Int64)))])) _
            refine XS.lload X6.here hx rfl (hb hby at_140) rfl ?_
            show Steps p.tables e below (T6.setTop (mkF m 142 _ [(.long (f1 q1 q2)), (.long q2), (.long (q1 * (10000 : Int64)))])) _
            refine st17 _ ?_
            show Steps p.tables e below (T17.setTop (mkF m 145 #[.val (.long q1), .second, .val (.long q2), .second, .val (.int p3), .val (.long q1), .second, .val (.long q2), .second, .val (.int (p3 &&& (3 : Int32))), .val (.long (f1 q1 q2)), .second] [(.int (f2 (q1 * (10000 : Int64)) q2 (f1 q1 q2)))])) _
            exact retN X17 hx (t := .boolean) Bd.returns (by simp) (hb hby at_145) hr
          · show Q0 Z q1 q2 p3 h0 n0 _ T17.heap _
            rw [e17]
            exact ⟨congrArg (fun z => some (Value.int z)) (by rw [f0, if_pos hc5, if_neg hc8, if_neg hc12, if_pos hc16] : f0 q1 q2 p3 = (nar .boolean (f2 (q1 * (10000 : Int64)) q2 (f1 q1 q2)))).symm, N17⟩
        · skip
          have pre18 : ∀ t, Steps p.tables e below (T6.setTop (mkF m 123 #[.val (.long q1), .second, .val (.long q2), .second, .val (.int p3), .val (.long q1), .second, .val (.long q2), .second, .val (.int (p3 &&& (3 : Int32))), .val (.long (f1 q1 q2)), .second] [(.int (lcmpW (f1 q1 q2) (-9223372036854775808 : Int64)))])) t → Steps p.tables e below (s₁.setTop (entryFrame m #[(.long q1), (.long q2), (.int p3)] maxLocals)) t := fun t kt => by
            refine pre15 _ ?_
            show Steps p.tables e below (T6.setTop (mkF m 114 #[.val (.long q1), .second, .val (.long q2), .second, .val (.int p3), .val (.long q1), .second, .val (.long q2), .second, .val (.int (p3 &&& (3 : Int32))), .val (.long (f1 q1 q2)), .second] [(.int (lcmpW q2 (0 : Int64)))])) _
            refine XS.ifNo X6.here hx rfl (hb hby at_114) rfl ((if0 _ _).trans (flt (mt (lw_gt _ _).mp hc16)).2.2.1) ?_
            show Steps p.tables e below (T6.setTop (mkF m 117 _ [])) _
            refine XS.lload X6.here hx rfl (hb hby at_117) rfl ?_
            show Steps p.tables e below (T6.setTop (mkF m 119 _ [(.long (f1 q1 q2))])) _
            refine X6.ldc2Long hx hown (mvT hZ (hw _ (List.mem_of_getElem? (i := 15) rfl))) (g := (mkF m 119 #[.val (.long q1), .second, .val (.long q2), .second, .val (.int p3), .val (.long q1), .second, .val (.long q2), .second, .val (.int (p3 &&& (3 : Int32))), .val (.long (f1 q1 q2)), .second] [(.long (f1 q1 q2))])) rfl (hb hby at_119) _ ?_
            show Steps p.tables e below (T6.setTop (mkF m 122 _ [(.long (-9223372036854775808 : Int64)), (.long (f1 q1 q2))])) _
            refine XS.lcmp X6.here hx rfl (hb hby at_122) rfl ?_
            exact kt
          by_cases hc19 : (f1 q1 q2) = (-9223372036854775808 : Int64)
          · skip
            obtain ⟨fs, hr, hrun, hended, hW, hsame⟩ := X6.leave (v := some (.int (1 : Int32))) (fun h => by rw [Bd.returns] at h; cases h) (by first | exact BodyLoose.notSynchronized Bd | exact Body.notSynchronized Bd)
            refine ⟨_, _, pre18 _ ?_, hrun, hended, _, _, rfl, ?_, ⟨_, rfl⟩, hW, hsame.mono (by decide) (by decide)⟩
            · show Steps p.tables e below (T6.setTop (mkF m 123 #[.val (.long q1), .second, .val (.long q2), .second, .val (.int p3), .val (.long q1), .second, .val (.long q2), .second, .val (.int (p3 &&& (3 : Int32))), .val (.long (f1 q1 q2)), .second] [(.int (lcmpW (f1 q1 q2) (-9223372036854775808 : Int64)))])) _
              refine XS.ifNo X6.here hx rfl (hb hby at_123) rfl ((if0 _ _).trans (teq ((lw_eq _ _).mpr hc19)).2) ?_
              show Steps p.tables e below (T6.setTop (mkF m 126 _ [])) _
              refine XS.iconst X6.here hx rfl (hb hby at_126) ?_
              show Steps p.tables e below (T6.setTop (mkF m 127 _ [(.int (1 : Int32))])) _
              refine XS.goto X6.here hx rfl (pc0 := 127) (pc' := 131) rfl (hb hby at_127) (by decide) (by decide) ?_
              show Steps p.tables e below (T6.setTop (mkF m 131 #[.val (.long q1), .second, .val (.long q2), .second, .val (.int p3), .val (.long q1), .second, .val (.long q2), .second, .val (.int (p3 &&& (3 : Int32))), .val (.long (f1 q1 q2)), .second] [(.int (1 : Int32))])) _
              exact retN X6 hx (t := .boolean) Bd.returns (by simp) (hb hby at_131) hr
            · show Q0 Z q1 q2 p3 h0 n0 _ T6.heap _
              rw [e6]
              exact ⟨congrArg (fun z => some (Value.int z)) (by rw [f0, if_pos hc5, if_neg hc8, if_neg hc12, if_neg hc16, if_pos hc19] : f0 q1 q2 p3 = (1 : Int32)).symm, N6⟩
          · skip
            obtain ⟨fs, hr, hrun, hended, hW, hsame⟩ := X6.leave (v := some (.int (0 : Int32))) (fun h => by rw [Bd.returns] at h; cases h) (by first | exact BodyLoose.notSynchronized Bd | exact Body.notSynchronized Bd)
            refine ⟨_, _, pre18 _ ?_, hrun, hended, _, _, rfl, ?_, ⟨_, rfl⟩, hW, hsame.mono (by decide) (by decide)⟩
            · show Steps p.tables e below (T6.setTop (mkF m 123 #[.val (.long q1), .second, .val (.long q2), .second, .val (.int p3), .val (.long q1), .second, .val (.long q2), .second, .val (.int (p3 &&& (3 : Int32))), .val (.long (f1 q1 q2)), .second] [(.int (lcmpW (f1 q1 q2) (-9223372036854775808 : Int64)))])) _
              refine XS.ifYes X6.here hx rfl (pc0 := 123) (pc' := 130) rfl (hb hby at_123) rfl ((if0 _ _).trans (feq (mt (lw_eq _ _).mp hc19)).2) (by decide) (by decide) ?_
              show Steps p.tables e below (T6.setTop (mkF m 130 _ [])) _
              refine XS.iconst X6.here hx rfl (hb hby at_130) ?_
              show Steps p.tables e below (T6.setTop (mkF m 131 #[.val (.long q1), .second, .val (.long q2), .second, .val (.int p3), .val (.long q1), .second, .val (.long q2), .second, .val (.int (p3 &&& (3 : Int32))), .val (.long (f1 q1 q2)), .second] [(.int (0 : Int32))])) _
              exact retN X6 hx (t := .boolean) Bd.returns (by simp) (hb hby at_131) hr
            · show Q0 Z q1 q2 p3 h0 n0 _ T6.heap _
              rw [e6]
              exact ⟨congrArg (fun z => some (Value.int z)) (by rw [f0, if_pos hc5, if_neg hc8, if_neg hc12, if_neg hc16, if_neg hc19] : f0 q1 q2 p3 = (0 : Int32)).symm, N6⟩
  · skip
    have pre20 : ∀ t, Steps p.tables e below (s₁.setTop (mkF m 34 #[.val (.long q1), .second, .val (.long q2), .second, .val (.int p3), .val (.long (own_part q1)), .second, .unset, .unset, .val (.int (p3 &&& (3 : Int32))), .unset, .unset] [(.int (1 : Int32)), (.int (p3 &&& (3 : Int32)))])) t → Steps p.tables e below (s₁.setTop (entryFrame m #[(.long q1), (.long q2), (.int p3)] maxLocals)) t := fun t kt => by
      refine pre4 _ ?_
      show Steps p.tables e below (s₁.setTop (mkF m 8 #[.val (.long q1), .second, .val (.long q2), .second, .val (.int p3), .unset, .unset, .unset, .unset, .val (.int (p3 &&& (3 : Int32))), .unset, .unset] [(.int (p3 &&& (3 : Int32)))])) _
      refine XS.ifYes X0.here hx rfl (pc0 := 8) (pc' := 20) rfl (hb hby at_8) rfl ((if0 _ _).trans (feq hc5).2) (by decide) (by decide) ?_
      show Steps p.tables e below (s₁.setTop (mkF m 20 _ [])) _
      refine XS.lloadN X0.here hx rfl (hb hby at_20) rfl ?_
      show Steps p.tables e below (s₁.setTop (mkF m 21 _ [(.long q1)])) _
      refine X0.ldc2Long hx hown (mvT hZ (hw _ (List.mem_of_getElem? (i := 12) rfl))) (g := (mkF m 21 #[.val (.long q1), .second, .val (.long q2), .second, .val (.int p3), .unset, .unset, .unset, .unset, .val (.int (p3 &&& (3 : Int32))), .unset, .unset] [(.long q1)])) rfl (hb hby at_21) _ ?_
      show Steps p.tables e below (s₁.setTop (mkF m 24 _ [(.long (9223372036854775807 : Int64)), (.long q1)])) _
      refine XS.land X0.here hx rfl (hb hby at_24) rfl ?_
      show Steps p.tables e below (s₁.setTop (mkF m 25 _ [(.long (q1 &&& (9223372036854775807 : Int64)))])) _
      refine X0.ldc2Long hx hown (mvT hZ (hw _ (List.mem_of_getElem? (i := 13) rfl))) (g := (mkF m 25 #[.val (.long q1), .second, .val (.long q2), .second, .val (.int p3), .unset, .unset, .unset, .unset, .val (.int (p3 &&& (3 : Int32))), .unset, .unset] [(.long (q1 &&& (9223372036854775807 : Int64)))])) rfl (hb hby at_25) _ ?_
      show Steps p.tables e below (s₁.setTop (mkF m 28 _ [(.long (922337203685478 : Int64)), (.long (q1 &&& (9223372036854775807 : Int64)))])) _
      refine XS.lrem X0.here hx rfl (hb hby at_28) rfl (by decide) ?_
      show Steps p.tables e below (s₁.setTop (mkF m 29 _ [(.long (own_part q1))])) _
      refine XS.lstore X0.here hx rfl (hb hby at_29) rfl (l' := #[.val (.long q1), .second, .val (.long q2), .second, .val (.int p3), .val (.long (own_part q1)), .second, .unset, .unset, .val (.int (p3 &&& (3 : Int32))), .unset, .unset]) rfl ?_
      show Steps p.tables e below (s₁.setTop (mkF m 31 _ [])) _
      refine XS.iload X0.here hx rfl (hb hby at_31) rfl ?_
      show Steps p.tables e below (s₁.setTop (mkF m 33 _ [(.int (p3 &&& (3 : Int32)))])) _
      refine XS.iconst X0.here hx rfl (hb hby at_33) ?_
      exact kt
    by_cases hc21 : (p3 &&& (3 : Int32)) = (1 : Int32)
    · skip
      obtain ⟨_, _, ⟨T22, L22, k22, n22⟩, -, X22, ⟨Lc22, hQ22, l22, y22, z22⟩, st22⟩ := Jvm.LawKit.callS X0 hx (y := (⟨"com/example/creditree/creditree/Money", "percentInHundredths", "(JJ)J"⟩ : MethodName)) hown (mvT hZ (hw _ (List.mem_of_getElem? (i := 0) rfl))) (mvT hZ (hw _ (List.mem_of_getElem? (i := 1) rfl))) (mvT hZ (hw _ (List.mem_of_getElem? (i := 2) rfl))) (mvT hZ (hw _ (List.mem_of_getElem? (i := 3) rfl))) (by decide) (backOf (W := 0) (rm1 l Z a0 hw [] (own_part q1) (q2 &&& (9223372036854775807 : Int64)) h0 n0 Z0 ) hZ (hw _ (List.mem_of_getElem? (i := 3) rfl)) (hw _ (List.mem_of_getElem? (i := 2) rfl)) (by decide) (by decide)) (g := (mkF m 89 #[.val (.long q1), .second, .val (.long q2), .second, .val (.int p3), .val (.long (own_part q1)), .second, .val (.long (q2 &&& (9223372036854775807 : Int64))), .second, .val (.int (p3 &&& (3 : Int32))), .unset, .unset] [(.long (q2 &&& (9223372036854775807 : Int64))), (.long (own_part q1))])) rfl (by rw [hml]; rfl) (argsL := [(.long (own_part q1)), (.long (q2 &&& (9223372036854775807 : Int64)))]) (rest := []) (lenOf pd_0_0 rfl) rfl (by show 2 * 0 + _ ≤ _; exact Nat.le_of_eq rfl) (hb hby at_89) (fun _ _ => ⟨rfl, e0, (by decide : 0 + 0 ≤ _), (by decide : 0 + 0 ≤ _)⟩)
      dsimp only [Pt.U, Pt.locs, Pt.cells, Pt.slots] at X22 l22 y22 z22 st22 hQ22
      subst l22 y22 z22
      obtain ⟨rfl, N22q, e22⟩ := hQ22
      have N22 := Fr.app N0 N22q
      have pre23 : ∀ t, Steps p.tables e below (T22.setTop (mkF m 98 #[.val (.long q1), .second, .val (.long q2), .second, .val (.int p3), .val (.long (own_part q1)), .second, .val (.long (q2 &&& (9223372036854775807 : Int64))), .second, .val (.int (p3 &&& (3 : Int32))), .val (.long (f1 (own_part q1) (q2 &&& (9223372036854775807 : Int64)))), .second] [(.int (lcmpW (own_part q1) (0 : Int64)))])) t → Steps p.tables e below (s₁.setTop (entryFrame m #[(.long q1), (.long q2), (.int p3)] maxLocals)) t := fun t kt => by
        refine pre20 _ ?_
        show Steps p.tables e below (s₁.setTop (mkF m 34 #[.val (.long q1), .second, .val (.long q2), .second, .val (.int p3), .val (.long (own_part q1)), .second, .unset, .unset, .val (.int (p3 &&& (3 : Int32))), .unset, .unset] [(.int (1 : Int32)), (.int (p3 &&& (3 : Int32)))])) _
        refine XS.icmpNo X0.here hx rfl (hb hby at_34) rfl (teq hc21).2 ?_
        show Steps p.tables e below (s₁.setTop (mkF m 37 _ [])) _
        refine XS.lloadN X0.here hx rfl (hb hby at_37) rfl ?_
        show Steps p.tables e below (s₁.setTop (mkF m 38 _ [(.long q2)])) _
        refine X0.ldc2Long hx hown (mvT hZ (hw _ (List.mem_of_getElem? (i := 12) rfl))) (g := (mkF m 38 #[.val (.long q1), .second, .val (.long q2), .second, .val (.int p3), .val (.long (own_part q1)), .second, .unset, .unset, .val (.int (p3 &&& (3 : Int32))), .unset, .unset] [(.long q2)])) rfl (hb hby at_38) _ ?_
        show Steps p.tables e below (s₁.setTop (mkF m 41 _ [(.long (9223372036854775807 : Int64)), (.long q2)])) _
        refine XS.land X0.here hx rfl (hb hby at_41) rfl ?_
        show Steps p.tables e below (s₁.setTop (mkF m 42 _ [(.long (q2 &&& (9223372036854775807 : Int64)))])) _
        refine XS.lstore X0.here hx rfl (hb hby at_42) rfl (l' := #[.val (.long q1), .second, .val (.long q2), .second, .val (.int p3), .val (.long (own_part q1)), .second, .val (.long (q2 &&& (9223372036854775807 : Int64))), .second, .val (.int (p3 &&& (3 : Int32))), .unset, .unset]) rfl ?_
        show Steps p.tables e below (s₁.setTop (mkF m 44 _ [])) _
        refine XS.goto X0.here hx rfl (pc0 := 44) (pc' := 85) rfl (hb hby at_44) (by decide) (by decide) ?_
        show Steps p.tables e below (s₁.setTop (mkF m 85 _ [])) _
        refine XS.lload X0.here hx rfl (hb hby at_85) rfl ?_
        show Steps p.tables e below (s₁.setTop (mkF m 87 _ [(.long (own_part q1))])) _
        refine XS.lload X0.here hx rfl (hb hby at_87) rfl ?_
        show Steps p.tables e below (s₁.setTop (mkF m 89 _ [(.long (q2 &&& (9223372036854775807 : Int64))), (.long (own_part q1))])) _
        refine st22 _ ?_
        show Steps p.tables e below (T22.setTop (mkF m 92 _ [(.long (f1 (own_part q1) (q2 &&& (9223372036854775807 : Int64))))])) _
        refine XS.lstore X22.here hx rfl (hb hby at_92) rfl (l' := #[.val (.long q1), .second, .val (.long q2), .second, .val (.int p3), .val (.long (own_part q1)), .second, .val (.long (q2 &&& (9223372036854775807 : Int64))), .second, .val (.int (p3 &&& (3 : Int32))), .val (.long (f1 (own_part q1) (q2 &&& (9223372036854775807 : Int64)))), .second]) rfl ?_
        show Steps p.tables e below (T22.setTop (mkF m 94 _ [])) _
        refine XS.lload X22.here hx rfl (hb hby at_94) rfl ?_
        show Steps p.tables e below (T22.setTop (mkF m 96 _ [(.long (own_part q1))])) _
        refine XS.lconst X22.here hx rfl (hb hby at_96) ?_
        show Steps p.tables e below (T22.setTop (mkF m 97 _ [(.long (0 : Int64)), (.long (own_part q1))])) _
        refine XS.lcmp X22.here hx rfl (hb hby at_97) rfl ?_
        exact kt
      by_cases hc24 : (own_part q1) < (0 : Int64)
      · skip
        have pre25 : ∀ t, Steps p.tables e below (T22.setTop (mkF m 123 #[.val (.long q1), .second, .val (.long q2), .second, .val (.int p3), .val (.long (own_part q1)), .second, .val (.long (q2 &&& (9223372036854775807 : Int64))), .second, .val (.int (p3 &&& (3 : Int32))), .val (.long (f1 (own_part q1) (q2 &&& (9223372036854775807 : Int64)))), .second] [(.int (lcmpW (f1 (own_part q1) (q2 &&& (9223372036854775807 : Int64))) (-9223372036854775808 : Int64)))])) t → Steps p.tables e below (s₁.setTop (entryFrame m #[(.long q1), (.long q2), (.int p3)] maxLocals)) t := fun t kt => by
          refine pre23 _ ?_
          show Steps p.tables e below (T22.setTop (mkF m 98 #[.val (.long q1), .second, .val (.long q2), .second, .val (.int p3), .val (.long (own_part q1)), .second, .val (.long (q2 &&& (9223372036854775807 : Int64))), .second, .val (.int (p3 &&& (3 : Int32))), .val (.long (f1 (own_part q1) (q2 &&& (9223372036854775807 : Int64)))), .second] [(.int (lcmpW (own_part q1) (0 : Int64)))])) _
          refine XS.ifYes X22.here hx rfl (pc0 := 98) (pc' := 117) rfl (hb hby at_98) rfl ((if0 _ _).trans (tlt ((lw_lt _ _).mpr hc24)).1) (by decide) (by decide) ?_
          show Steps p.tables e below (T22.setTop (mkF m 117 _ [])) _
          refine XS.lload X22.here hx rfl (hb hby at_117) rfl ?_
          show Steps p.tables e below (T22.setTop (mkF m 119 _ [(.long (f1 (own_part q1) (q2 &&& (9223372036854775807 : Int64))))])) _
          refine X22.ldc2Long hx hown (mvT hZ (hw _ (List.mem_of_getElem? (i := 15) rfl))) (g := (mkF m 119 #[.val (.long q1), .second, .val (.long q2), .second, .val (.int p3), .val (.long (own_part q1)), .second, .val (.long (q2 &&& (9223372036854775807 : Int64))), .second, .val (.int (p3 &&& (3 : Int32))), .val (.long (f1 (own_part q1) (q2 &&& (9223372036854775807 : Int64)))), .second] [(.long (f1 (own_part q1) (q2 &&& (9223372036854775807 : Int64))))])) rfl (hb hby at_119) _ ?_
          show Steps p.tables e below (T22.setTop (mkF m 122 _ [(.long (-9223372036854775808 : Int64)), (.long (f1 (own_part q1) (q2 &&& (9223372036854775807 : Int64))))])) _
          refine XS.lcmp X22.here hx rfl (hb hby at_122) rfl ?_
          exact kt
        by_cases hc26 : (f1 (own_part q1) (q2 &&& (9223372036854775807 : Int64))) = (-9223372036854775808 : Int64)
        · skip
          obtain ⟨fs, hr, hrun, hended, hW, hsame⟩ := X22.leave (v := some (.int (1 : Int32))) (fun h => by rw [Bd.returns] at h; cases h) (by first | exact BodyLoose.notSynchronized Bd | exact Body.notSynchronized Bd)
          refine ⟨_, _, pre25 _ ?_, hrun, hended, _, _, rfl, ?_, ⟨_, rfl⟩, hW, hsame.mono (by decide) (by decide)⟩
          · show Steps p.tables e below (T22.setTop (mkF m 123 #[.val (.long q1), .second, .val (.long q2), .second, .val (.int p3), .val (.long (own_part q1)), .second, .val (.long (q2 &&& (9223372036854775807 : Int64))), .second, .val (.int (p3 &&& (3 : Int32))), .val (.long (f1 (own_part q1) (q2 &&& (9223372036854775807 : Int64)))), .second] [(.int (lcmpW (f1 (own_part q1) (q2 &&& (9223372036854775807 : Int64))) (-9223372036854775808 : Int64)))])) _
            refine XS.ifNo X22.here hx rfl (hb hby at_123) rfl ((if0 _ _).trans (teq ((lw_eq _ _).mpr hc26)).2) ?_
            show Steps p.tables e below (T22.setTop (mkF m 126 _ [])) _
            refine XS.iconst X22.here hx rfl (hb hby at_126) ?_
            show Steps p.tables e below (T22.setTop (mkF m 127 _ [(.int (1 : Int32))])) _
            refine XS.goto X22.here hx rfl (pc0 := 127) (pc' := 131) rfl (hb hby at_127) (by decide) (by decide) ?_
            show Steps p.tables e below (T22.setTop (mkF m 131 #[.val (.long q1), .second, .val (.long q2), .second, .val (.int p3), .val (.long (own_part q1)), .second, .val (.long (q2 &&& (9223372036854775807 : Int64))), .second, .val (.int (p3 &&& (3 : Int32))), .val (.long (f1 (own_part q1) (q2 &&& (9223372036854775807 : Int64)))), .second] [(.int (1 : Int32))])) _
            exact retN X22 hx (t := .boolean) Bd.returns (by simp) (hb hby at_131) hr
          · show Q0 Z q1 q2 p3 h0 n0 _ T22.heap _
            rw [e22]
            exact ⟨congrArg (fun z => some (Value.int z)) (by rw [f0, if_neg hc5, if_pos hc21, if_pos hc24, if_pos hc26] : f0 q1 q2 p3 = (1 : Int32)).symm, N22⟩
        · skip
          obtain ⟨fs, hr, hrun, hended, hW, hsame⟩ := X22.leave (v := some (.int (0 : Int32))) (fun h => by rw [Bd.returns] at h; cases h) (by first | exact BodyLoose.notSynchronized Bd | exact Body.notSynchronized Bd)
          refine ⟨_, _, pre25 _ ?_, hrun, hended, _, _, rfl, ?_, ⟨_, rfl⟩, hW, hsame.mono (by decide) (by decide)⟩
          · show Steps p.tables e below (T22.setTop (mkF m 123 #[.val (.long q1), .second, .val (.long q2), .second, .val (.int p3), .val (.long (own_part q1)), .second, .val (.long (q2 &&& (9223372036854775807 : Int64))), .second, .val (.int (p3 &&& (3 : Int32))), .val (.long (f1 (own_part q1) (q2 &&& (9223372036854775807 : Int64)))), .second] [(.int (lcmpW (f1 (own_part q1) (q2 &&& (9223372036854775807 : Int64))) (-9223372036854775808 : Int64)))])) _
            refine XS.ifYes X22.here hx rfl (pc0 := 123) (pc' := 130) rfl (hb hby at_123) rfl ((if0 _ _).trans (feq (mt (lw_eq _ _).mp hc26)).2) (by decide) (by decide) ?_
            show Steps p.tables e below (T22.setTop (mkF m 130 _ [])) _
            refine XS.iconst X22.here hx rfl (hb hby at_130) ?_
            show Steps p.tables e below (T22.setTop (mkF m 131 #[.val (.long q1), .second, .val (.long q2), .second, .val (.int p3), .val (.long (own_part q1)), .second, .val (.long (q2 &&& (9223372036854775807 : Int64))), .second, .val (.int (p3 &&& (3 : Int32))), .val (.long (f1 (own_part q1) (q2 &&& (9223372036854775807 : Int64)))), .second] [(.int (0 : Int32))])) _
            exact retN X22 hx (t := .boolean) Bd.returns (by simp) (hb hby at_131) hr
          · show Q0 Z q1 q2 p3 h0 n0 _ T22.heap _
            rw [e22]
            exact ⟨congrArg (fun z => some (Value.int z)) (by rw [f0, if_neg hc5, if_pos hc21, if_pos hc24, if_neg hc26] : f0 q1 q2 p3 = (0 : Int32)).symm, N22⟩
      · skip
        have pre27 : ∀ t, Steps p.tables e below (T22.setTop (mkF m 107 #[.val (.long q1), .second, .val (.long q2), .second, .val (.int p3), .val (.long (own_part q1)), .second, .val (.long (q2 &&& (9223372036854775807 : Int64))), .second, .val (.int (p3 &&& (3 : Int32))), .val (.long (f1 (own_part q1) (q2 &&& (9223372036854775807 : Int64)))), .second] [(.int (lcmpW (own_part q1) (922337203685477 : Int64)))])) t → Steps p.tables e below (s₁.setTop (entryFrame m #[(.long q1), (.long q2), (.int p3)] maxLocals)) t := fun t kt => by
          refine pre23 _ ?_
          show Steps p.tables e below (T22.setTop (mkF m 98 #[.val (.long q1), .second, .val (.long q2), .second, .val (.int p3), .val (.long (own_part q1)), .second, .val (.long (q2 &&& (9223372036854775807 : Int64))), .second, .val (.int (p3 &&& (3 : Int32))), .val (.long (f1 (own_part q1) (q2 &&& (9223372036854775807 : Int64)))), .second] [(.int (lcmpW (own_part q1) (0 : Int64)))])) _
          refine XS.ifNo X22.here hx rfl (hb hby at_98) rfl ((if0 _ _).trans (flt (mt (lw_lt _ _).mp hc24)).1) ?_
          show Steps p.tables e below (T22.setTop (mkF m 101 _ [])) _
          refine XS.lload X22.here hx rfl (hb hby at_101) rfl ?_
          show Steps p.tables e below (T22.setTop (mkF m 103 _ [(.long (own_part q1))])) _
          refine X22.ldc2Long hx hown (mvT hZ (hw _ (List.mem_of_getElem? (i := 6) rfl))) (g := (mkF m 103 #[.val (.long q1), .second, .val (.long q2), .second, .val (.int p3), .val (.long (own_part q1)), .second, .val (.long (q2 &&& (9223372036854775807 : Int64))), .second, .val (.int (p3 &&& (3 : Int32))), .val (.long (f1 (own_part q1) (q2 &&& (9223372036854775807 : Int64)))), .second] [(.long (own_part q1))])) rfl (hb hby at_103) _ ?_
          show Steps p.tables e below (T22.setTop (mkF m 106 _ [(.long (922337203685477 : Int64)), (.long (own_part q1))])) _
          refine XS.lcmp X22.here hx rfl (hb hby at_106) rfl ?_
          exact kt
        by_cases hc28 : (922337203685477 : Int64) < (own_part q1)
        · skip
          have pre29 : ∀ t, Steps p.tables e below (T22.setTop (mkF m 123 #[.val (.long q1), .second, .val (.long q2), .second, .val (.int p3), .val (.long (own_part q1)), .second, .val (.long (q2 &&& (9223372036854775807 : Int64))), .second, .val (.int (p3 &&& (3 : Int32))), .val (.long (f1 (own_part q1) (q2 &&& (9223372036854775807 : Int64)))), .second] [(.int (lcmpW (f1 (own_part q1) (q2 &&& (9223372036854775807 : Int64))) (-9223372036854775808 : Int64)))])) t → Steps p.tables e below (s₁.setTop (entryFrame m #[(.long q1), (.long q2), (.int p3)] maxLocals)) t := fun t kt => by
            refine pre27 _ ?_
            show Steps p.tables e below (T22.setTop (mkF m 107 #[.val (.long q1), .second, .val (.long q2), .second, .val (.int p3), .val (.long (own_part q1)), .second, .val (.long (q2 &&& (9223372036854775807 : Int64))), .second, .val (.int (p3 &&& (3 : Int32))), .val (.long (f1 (own_part q1) (q2 &&& (9223372036854775807 : Int64)))), .second] [(.int (lcmpW (own_part q1) (922337203685477 : Int64)))])) _
            refine XS.ifYes X22.here hx rfl (pc0 := 107) (pc' := 117) rfl (hb hby at_107) rfl ((if0 _ _).trans (tlt ((lw_gt _ _).mpr hc28)).2.2.1) (by decide) (by decide) ?_
            show Steps p.tables e below (T22.setTop (mkF m 117 _ [])) _
            refine XS.lload X22.here hx rfl (hb hby at_117) rfl ?_
            show Steps p.tables e below (T22.setTop (mkF m 119 _ [(.long (f1 (own_part q1) (q2 &&& (9223372036854775807 : Int64))))])) _
            refine X22.ldc2Long hx hown (mvT hZ (hw _ (List.mem_of_getElem? (i := 15) rfl))) (g := (mkF m 119 #[.val (.long q1), .second, .val (.long q2), .second, .val (.int p3), .val (.long (own_part q1)), .second, .val (.long (q2 &&& (9223372036854775807 : Int64))), .second, .val (.int (p3 &&& (3 : Int32))), .val (.long (f1 (own_part q1) (q2 &&& (9223372036854775807 : Int64)))), .second] [(.long (f1 (own_part q1) (q2 &&& (9223372036854775807 : Int64))))])) rfl (hb hby at_119) _ ?_
            show Steps p.tables e below (T22.setTop (mkF m 122 _ [(.long (-9223372036854775808 : Int64)), (.long (f1 (own_part q1) (q2 &&& (9223372036854775807 : Int64))))])) _
            refine XS.lcmp X22.here hx rfl (hb hby at_122) rfl ?_
            exact kt
          by_cases hc30 : (f1 (own_part q1) (q2 &&& (9223372036854775807 : Int64))) = (-9223372036854775808 : Int64)
          · skip
            obtain ⟨fs, hr, hrun, hended, hW, hsame⟩ := X22.leave (v := some (.int (1 : Int32))) (fun h => by rw [Bd.returns] at h; cases h) (by first | exact BodyLoose.notSynchronized Bd | exact Body.notSynchronized Bd)
            refine ⟨_, _, pre29 _ ?_, hrun, hended, _, _, rfl, ?_, ⟨_, rfl⟩, hW, hsame.mono (by decide) (by decide)⟩
            · show Steps p.tables e below (T22.setTop (mkF m 123 #[.val (.long q1), .second, .val (.long q2), .second, .val (.int p3), .val (.long (own_part q1)), .second, .val (.long (q2 &&& (9223372036854775807 : Int64))), .second, .val (.int (p3 &&& (3 : Int32))), .val (.long (f1 (own_part q1) (q2 &&& (9223372036854775807 : Int64)))), .second] [(.int (lcmpW (f1 (own_part q1) (q2 &&& (9223372036854775807 : Int64))) (-9223372036854775808 : Int64)))])) _
              refine XS.ifNo X22.here hx rfl (hb hby at_123) rfl ((if0 _ _).trans (teq ((lw_eq _ _).mpr hc30)).2) ?_
              show Steps p.tables e below (T22.setTop (mkF m 126 _ [])) _
              refine XS.iconst X22.here hx rfl (hb hby at_126) ?_
              show Steps p.tables e below (T22.setTop (mkF m 127 _ [(.int (1 : Int32))])) _
              refine XS.goto X22.here hx rfl (pc0 := 127) (pc' := 131) rfl (hb hby at_127) (by decide) (by decide) ?_
              show Steps p.tables e below (T22.setTop (mkF m 131 #[.val (.long q1), .second, .val (.long q2), .second, .val (.int p3), .val (.long (own_part q1)), .second, .val (.long (q2 &&& (9223372036854775807 : Int64))), .second, .val (.int (p3 &&& (3 : Int32))), .val (.long (f1 (own_part q1) (q2 &&& (9223372036854775807 : Int64)))), .second] [(.int (1 : Int32))])) _
              exact retN X22 hx (t := .boolean) Bd.returns (by simp) (hb hby at_131) hr
            · show Q0 Z q1 q2 p3 h0 n0 _ T22.heap _
              rw [e22]
              exact ⟨congrArg (fun z => some (Value.int z)) (by rw [f0, if_neg hc5, if_pos hc21, if_neg hc24, if_pos hc28, if_pos hc30] : f0 q1 q2 p3 = (1 : Int32)).symm, N22⟩
          · skip
            obtain ⟨fs, hr, hrun, hended, hW, hsame⟩ := X22.leave (v := some (.int (0 : Int32))) (fun h => by rw [Bd.returns] at h; cases h) (by first | exact BodyLoose.notSynchronized Bd | exact Body.notSynchronized Bd)
            refine ⟨_, _, pre29 _ ?_, hrun, hended, _, _, rfl, ?_, ⟨_, rfl⟩, hW, hsame.mono (by decide) (by decide)⟩
            · show Steps p.tables e below (T22.setTop (mkF m 123 #[.val (.long q1), .second, .val (.long q2), .second, .val (.int p3), .val (.long (own_part q1)), .second, .val (.long (q2 &&& (9223372036854775807 : Int64))), .second, .val (.int (p3 &&& (3 : Int32))), .val (.long (f1 (own_part q1) (q2 &&& (9223372036854775807 : Int64)))), .second] [(.int (lcmpW (f1 (own_part q1) (q2 &&& (9223372036854775807 : Int64))) (-9223372036854775808 : Int64)))])) _
              refine XS.ifYes X22.here hx rfl (pc0 := 123) (pc' := 130) rfl (hb hby at_123) rfl ((if0 _ _).trans (feq (mt (lw_eq _ _).mp hc30)).2) (by decide) (by decide) ?_
              show Steps p.tables e below (T22.setTop (mkF m 130 _ [])) _
              refine XS.iconst X22.here hx rfl (hb hby at_130) ?_
              show Steps p.tables e below (T22.setTop (mkF m 131 #[.val (.long q1), .second, .val (.long q2), .second, .val (.int p3), .val (.long (own_part q1)), .second, .val (.long (q2 &&& (9223372036854775807 : Int64))), .second, .val (.int (p3 &&& (3 : Int32))), .val (.long (f1 (own_part q1) (q2 &&& (9223372036854775807 : Int64)))), .second] [(.int (0 : Int32))])) _
              exact retN X22 hx (t := .boolean) Bd.returns (by simp) (hb hby at_131) hr
            · show Q0 Z q1 q2 p3 h0 n0 _ T22.heap _
              rw [e22]
              exact ⟨congrArg (fun z => some (Value.int z)) (by rw [f0, if_neg hc5, if_pos hc21, if_neg hc24, if_pos hc28, if_neg hc30] : f0 q1 q2 p3 = (0 : Int32)).symm, N22⟩
        · skip
          have pre31 : ∀ t, Steps p.tables e below (T22.setTop (mkF m 114 #[.val (.long q1), .second, .val (.long q2), .second, .val (.int p3), .val (.long (own_part q1)), .second, .val (.long (q2 &&& (9223372036854775807 : Int64))), .second, .val (.int (p3 &&& (3 : Int32))), .val (.long (f1 (own_part q1) (q2 &&& (9223372036854775807 : Int64)))), .second] [(.int (lcmpW (q2 &&& (9223372036854775807 : Int64)) (0 : Int64)))])) t → Steps p.tables e below (s₁.setTop (entryFrame m #[(.long q1), (.long q2), (.int p3)] maxLocals)) t := fun t kt => by
            refine pre27 _ ?_
            show Steps p.tables e below (T22.setTop (mkF m 107 #[.val (.long q1), .second, .val (.long q2), .second, .val (.int p3), .val (.long (own_part q1)), .second, .val (.long (q2 &&& (9223372036854775807 : Int64))), .second, .val (.int (p3 &&& (3 : Int32))), .val (.long (f1 (own_part q1) (q2 &&& (9223372036854775807 : Int64)))), .second] [(.int (lcmpW (own_part q1) (922337203685477 : Int64)))])) _
            refine XS.ifNo X22.here hx rfl (hb hby at_107) rfl ((if0 _ _).trans (flt (mt (lw_gt _ _).mp hc28)).2.2.1) ?_
            show Steps p.tables e below (T22.setTop (mkF m 110 _ [])) _
            refine XS.lload X22.here hx rfl (hb hby at_110) rfl ?_
            show Steps p.tables e below (T22.setTop (mkF m 112 _ [(.long (q2 &&& (9223372036854775807 : Int64)))])) _
            refine XS.lconst X22.here hx rfl (hb hby at_112) ?_
            show Steps p.tables e below (T22.setTop (mkF m 113 _ [(.long (0 : Int64)), (.long (q2 &&& (9223372036854775807 : Int64)))])) _
            refine XS.lcmp X22.here hx rfl (hb hby at_113) rfl ?_
            exact kt
          by_cases hc32 : (0 : Int64) < (q2 &&& (9223372036854775807 : Int64))
          · skip
            obtain ⟨_, _, ⟨T33, L33, k33, n33⟩, -, X33, ⟨Lc33, hQ33, l33, y33, z33⟩, st33⟩ := Jvm.LawKit.callS X22 hx (y := (⟨"com/example/creditree/creditree/MoneyPercentInHundredthsPinLaw", "isRounded", "(JJJ)Z"⟩ : MethodName)) hown (mvT hZ (hw _ (List.mem_of_getElem? (i := 8) rfl))) (mvT hZ (hw _ (List.mem_of_getElem? (i := 9) rfl))) (mvT hZ (hw _ (List.mem_of_getElem? (i := 10) rfl))) (mvT hZ (hw _ (List.mem_of_getElem? (i := 11) rfl))) (by decide) (backOf (W := 0) (rm2 l Z a0 hw [] ((own_part q1) * (10000 : Int64)) (q2 &&& (9223372036854775807 : Int64)) (f1 (own_part q1) (q2 &&& (9223372036854775807 : Int64))) h0 n0 Z0 (own_nz_J hc32)) hZ (hw _ (List.mem_of_getElem? (i := 11) rfl)) (hw _ (List.mem_of_getElem? (i := 10) rfl)) (by decide) (by decide)) (g := (mkF m 142 #[.val (.long q1), .second, .val (.long q2), .second, .val (.int p3), .val (.long (own_part q1)), .second, .val (.long (q2 &&& (9223372036854775807 : Int64))), .second, .val (.int (p3 &&& (3 : Int32))), .val (.long (f1 (own_part q1) (q2 &&& (9223372036854775807 : Int64)))), .second] [(.long (f1 (own_part q1) (q2 &&& (9223372036854775807 : Int64)))), (.long (q2 &&& (9223372036854775807 : Int64))), (.long ((own_part q1) * (10000 : Int64)))])) rfl (by rw [hml]; rfl) (argsL := [(.long ((own_part q1) * (10000 : Int64))), (.long (q2 &&& (9223372036854775807 : Int64))), (.long (f1 (own_part q1) (q2 &&& (9223372036854775807 : Int64))))]) (rest := []) (lenOf pd_0_1 rfl) rfl (by show 2 * 0 + _ ≤ _; exact Nat.le_of_eq rfl) (hb hby at_142) (fun _ _ => ⟨rfl, e22, (by decide : 0 + 0 ≤ _), (by decide : 0 + 0 ≤ _)⟩)
            dsimp only [Pt.U, Pt.locs, Pt.cells, Pt.slots] at X33 l33 y33 z33 st33 hQ33
            subst l33 y33 z33
            obtain ⟨rfl, N33q, e33⟩ := hQ33
            have N33 := Fr.app N22 N33q
            obtain ⟨fs, hr, hrun, hended, hW, hsame⟩ := X33.leave (v := some (.int (nar .boolean (f2 ((own_part q1) * (10000 : Int64)) (q2 &&& (9223372036854775807 : Int64)) (f1 (own_part q1) (q2 &&& (9223372036854775807 : Int64))))))) (fun h => by rw [Bd.returns] at h; cases h) (by first | exact BodyLoose.notSynchronized Bd | exact Body.notSynchronized Bd)
            refine ⟨_, _, pre31 _ ?_, hrun, hended, _, _, rfl, ?_, ⟨_, rfl⟩, hW, hsame.mono (by decide) (by decide)⟩
            · show Steps p.tables e below (T22.setTop (mkF m 114 #[.val (.long q1), .second, .val (.long q2), .second, .val (.int p3), .val (.long (own_part q1)), .second, .val (.long (q2 &&& (9223372036854775807 : Int64))), .second, .val (.int (p3 &&& (3 : Int32))), .val (.long (f1 (own_part q1) (q2 &&& (9223372036854775807 : Int64)))), .second] [(.int (lcmpW (q2 &&& (9223372036854775807 : Int64)) (0 : Int64)))])) _
              refine XS.ifYes X22.here hx rfl (pc0 := 114) (pc' := 132) rfl (hb hby at_114) rfl ((if0 _ _).trans (tlt ((lw_gt _ _).mpr hc32)).2.2.1) (by decide) (by decide) ?_
              show Steps p.tables e below (T22.setTop (mkF m 132 _ [])) _
              refine XS.lload X22.here hx rfl (hb hby at_132) rfl ?_
              show Steps p.tables e below (T22.setTop (mkF m 134 _ [(.long (own_part q1))])) _
              refine X22.ldc2Long hx hown (mvT hZ (hw _ (List.mem_of_getElem? (i := 7) rfl))) (g := (mkF m 134 #[.val (.long q1), .second, .val (.long q2), .second, .val (.int p3), .val (.long (own_part q1)), .second, .val (.long (q2 &&& (9223372036854775807 : Int64))), .second, .val (.int (p3 &&& (3 : Int32))), .val (.long (f1 (own_part q1) (q2 &&& (9223372036854775807 : Int64)))), .second] [(.long (own_part q1))])) rfl (hb hby at_134) _ ?_
              show Steps p.tables e below (T22.setTop (mkF m 137 _ [(.long (10000 : Int64)), (.long (own_part q1))])) _
              refine XS.lmul X22.here hx rfl (hb hby at_137) rfl ?_
              show Steps p.tables e below (T22.setTop (mkF m 138 _ [(.long ((own_part q1) * (10000 : Int64)))])) _
              refine XS.lload X22.here hx rfl (hb hby at_138) rfl ?_
              show Steps p.tables e below (T22.setTop (mkF m 140 _ [(.long (q2 &&& (9223372036854775807 : Int64))), (.long ((own_part q1) * (10000 : Int64)))])) _
              refine XS.lload X22.here hx rfl (hb hby at_140) rfl ?_
              show Steps p.tables e below (T22.setTop (mkF m 142 _ [(.long (f1 (own_part q1) (q2 &&& (9223372036854775807 : Int64)))), (.long (q2 &&& (9223372036854775807 : Int64))), (.long ((own_part q1) * (10000 : Int64)))])) _
              refine st33 _ ?_
              show Steps p.tables e below (T33.setTop (mkF m 145 #[.val (.long q1), .second, .val (.long q2), .second, .val (.int p3), .val (.long (own_part q1)), .second, .val (.long (q2 &&& (9223372036854775807 : Int64))), .second, .val (.int (p3 &&& (3 : Int32))), .val (.long (f1 (own_part q1) (q2 &&& (9223372036854775807 : Int64)))), .second] [(.int (f2 ((own_part q1) * (10000 : Int64)) (q2 &&& (9223372036854775807 : Int64)) (f1 (own_part q1) (q2 &&& (9223372036854775807 : Int64)))))])) _
              exact retN X33 hx (t := .boolean) Bd.returns (by simp) (hb hby at_145) hr
            · show Q0 Z q1 q2 p3 h0 n0 _ T33.heap _
              rw [e33]
              exact ⟨congrArg (fun z => some (Value.int z)) (by rw [f0, if_neg hc5, if_pos hc21, if_neg hc24, if_neg hc28, if_pos hc32] : f0 q1 q2 p3 = (nar .boolean (f2 ((own_part q1) * (10000 : Int64)) (q2 &&& (9223372036854775807 : Int64)) (f1 (own_part q1) (q2 &&& (9223372036854775807 : Int64)))))).symm, N33⟩
          · skip
            have pre34 : ∀ t, Steps p.tables e below (T22.setTop (mkF m 123 #[.val (.long q1), .second, .val (.long q2), .second, .val (.int p3), .val (.long (own_part q1)), .second, .val (.long (q2 &&& (9223372036854775807 : Int64))), .second, .val (.int (p3 &&& (3 : Int32))), .val (.long (f1 (own_part q1) (q2 &&& (9223372036854775807 : Int64)))), .second] [(.int (lcmpW (f1 (own_part q1) (q2 &&& (9223372036854775807 : Int64))) (-9223372036854775808 : Int64)))])) t → Steps p.tables e below (s₁.setTop (entryFrame m #[(.long q1), (.long q2), (.int p3)] maxLocals)) t := fun t kt => by
              refine pre31 _ ?_
              show Steps p.tables e below (T22.setTop (mkF m 114 #[.val (.long q1), .second, .val (.long q2), .second, .val (.int p3), .val (.long (own_part q1)), .second, .val (.long (q2 &&& (9223372036854775807 : Int64))), .second, .val (.int (p3 &&& (3 : Int32))), .val (.long (f1 (own_part q1) (q2 &&& (9223372036854775807 : Int64)))), .second] [(.int (lcmpW (q2 &&& (9223372036854775807 : Int64)) (0 : Int64)))])) _
              refine XS.ifNo X22.here hx rfl (hb hby at_114) rfl ((if0 _ _).trans (flt (mt (lw_gt _ _).mp hc32)).2.2.1) ?_
              show Steps p.tables e below (T22.setTop (mkF m 117 _ [])) _
              refine XS.lload X22.here hx rfl (hb hby at_117) rfl ?_
              show Steps p.tables e below (T22.setTop (mkF m 119 _ [(.long (f1 (own_part q1) (q2 &&& (9223372036854775807 : Int64))))])) _
              refine X22.ldc2Long hx hown (mvT hZ (hw _ (List.mem_of_getElem? (i := 15) rfl))) (g := (mkF m 119 #[.val (.long q1), .second, .val (.long q2), .second, .val (.int p3), .val (.long (own_part q1)), .second, .val (.long (q2 &&& (9223372036854775807 : Int64))), .second, .val (.int (p3 &&& (3 : Int32))), .val (.long (f1 (own_part q1) (q2 &&& (9223372036854775807 : Int64)))), .second] [(.long (f1 (own_part q1) (q2 &&& (9223372036854775807 : Int64))))])) rfl (hb hby at_119) _ ?_
              show Steps p.tables e below (T22.setTop (mkF m 122 _ [(.long (-9223372036854775808 : Int64)), (.long (f1 (own_part q1) (q2 &&& (9223372036854775807 : Int64))))])) _
              refine XS.lcmp X22.here hx rfl (hb hby at_122) rfl ?_
              exact kt
            by_cases hc35 : (f1 (own_part q1) (q2 &&& (9223372036854775807 : Int64))) = (-9223372036854775808 : Int64)
            · skip
              obtain ⟨fs, hr, hrun, hended, hW, hsame⟩ := X22.leave (v := some (.int (1 : Int32))) (fun h => by rw [Bd.returns] at h; cases h) (by first | exact BodyLoose.notSynchronized Bd | exact Body.notSynchronized Bd)
              refine ⟨_, _, pre34 _ ?_, hrun, hended, _, _, rfl, ?_, ⟨_, rfl⟩, hW, hsame.mono (by decide) (by decide)⟩
              · show Steps p.tables e below (T22.setTop (mkF m 123 #[.val (.long q1), .second, .val (.long q2), .second, .val (.int p3), .val (.long (own_part q1)), .second, .val (.long (q2 &&& (9223372036854775807 : Int64))), .second, .val (.int (p3 &&& (3 : Int32))), .val (.long (f1 (own_part q1) (q2 &&& (9223372036854775807 : Int64)))), .second] [(.int (lcmpW (f1 (own_part q1) (q2 &&& (9223372036854775807 : Int64))) (-9223372036854775808 : Int64)))])) _
                refine XS.ifNo X22.here hx rfl (hb hby at_123) rfl ((if0 _ _).trans (teq ((lw_eq _ _).mpr hc35)).2) ?_
                show Steps p.tables e below (T22.setTop (mkF m 126 _ [])) _
                refine XS.iconst X22.here hx rfl (hb hby at_126) ?_
                show Steps p.tables e below (T22.setTop (mkF m 127 _ [(.int (1 : Int32))])) _
                refine XS.goto X22.here hx rfl (pc0 := 127) (pc' := 131) rfl (hb hby at_127) (by decide) (by decide) ?_
                show Steps p.tables e below (T22.setTop (mkF m 131 #[.val (.long q1), .second, .val (.long q2), .second, .val (.int p3), .val (.long (own_part q1)), .second, .val (.long (q2 &&& (9223372036854775807 : Int64))), .second, .val (.int (p3 &&& (3 : Int32))), .val (.long (f1 (own_part q1) (q2 &&& (9223372036854775807 : Int64)))), .second] [(.int (1 : Int32))])) _
                exact retN X22 hx (t := .boolean) Bd.returns (by simp) (hb hby at_131) hr
              · show Q0 Z q1 q2 p3 h0 n0 _ T22.heap _
                rw [e22]
                exact ⟨congrArg (fun z => some (Value.int z)) (by rw [f0, if_neg hc5, if_pos hc21, if_neg hc24, if_neg hc28, if_neg hc32, if_pos hc35] : f0 q1 q2 p3 = (1 : Int32)).symm, N22⟩
            · skip
              obtain ⟨fs, hr, hrun, hended, hW, hsame⟩ := X22.leave (v := some (.int (0 : Int32))) (fun h => by rw [Bd.returns] at h; cases h) (by first | exact BodyLoose.notSynchronized Bd | exact Body.notSynchronized Bd)
              refine ⟨_, _, pre34 _ ?_, hrun, hended, _, _, rfl, ?_, ⟨_, rfl⟩, hW, hsame.mono (by decide) (by decide)⟩
              · show Steps p.tables e below (T22.setTop (mkF m 123 #[.val (.long q1), .second, .val (.long q2), .second, .val (.int p3), .val (.long (own_part q1)), .second, .val (.long (q2 &&& (9223372036854775807 : Int64))), .second, .val (.int (p3 &&& (3 : Int32))), .val (.long (f1 (own_part q1) (q2 &&& (9223372036854775807 : Int64)))), .second] [(.int (lcmpW (f1 (own_part q1) (q2 &&& (9223372036854775807 : Int64))) (-9223372036854775808 : Int64)))])) _
                refine XS.ifYes X22.here hx rfl (pc0 := 123) (pc' := 130) rfl (hb hby at_123) rfl ((if0 _ _).trans (feq (mt (lw_eq _ _).mp hc35)).2) (by decide) (by decide) ?_
                show Steps p.tables e below (T22.setTop (mkF m 130 _ [])) _
                refine XS.iconst X22.here hx rfl (hb hby at_130) ?_
                show Steps p.tables e below (T22.setTop (mkF m 131 #[.val (.long q1), .second, .val (.long q2), .second, .val (.int p3), .val (.long (own_part q1)), .second, .val (.long (q2 &&& (9223372036854775807 : Int64))), .second, .val (.int (p3 &&& (3 : Int32))), .val (.long (f1 (own_part q1) (q2 &&& (9223372036854775807 : Int64)))), .second] [(.int (0 : Int32))])) _
                exact retN X22 hx (t := .boolean) Bd.returns (by simp) (hb hby at_131) hr
              · show Q0 Z q1 q2 p3 h0 n0 _ T22.heap _
                rw [e22]
                exact ⟨congrArg (fun z => some (Value.int z)) (by rw [f0, if_neg hc5, if_pos hc21, if_neg hc24, if_neg hc28, if_neg hc32, if_neg hc35] : f0 q1 q2 p3 = (0 : Int32)).symm, N22⟩
    · skip
      have pre36 : ∀ t, Steps p.tables e below (s₁.setTop (mkF m 50 #[.val (.long q1), .second, .val (.long q2), .second, .val (.int p3), .val (.long (own_part q1)), .second, .unset, .unset, .val (.int (p3 &&& (3 : Int32))), .unset, .unset] [(.int (2 : Int32)), (.int (p3 &&& (3 : Int32)))])) t → Steps p.tables e below (s₁.setTop (entryFrame m #[(.long q1), (.long q2), (.int p3)] maxLocals)) t := fun t kt => by
        refine pre20 _ ?_
        show Steps p.tables e below (s₁.setTop (mkF m 34 #[.val (.long q1), .second, .val (.long q2), .second, .val (.int p3), .val (.long (own_part q1)), .second, .unset, .unset, .val (.int (p3 &&& (3 : Int32))), .unset, .unset] [(.int (1 : Int32)), (.int (p3 &&& (3 : Int32)))])) _
        refine XS.icmpYes X0.here hx rfl (pc0 := 34) (pc' := 47) rfl (hb hby at_34) rfl (feq hc21).2 (by decide) (by decide) ?_
        show Steps p.tables e below (s₁.setTop (mkF m 47 _ [])) _
        refine XS.iload X0.here hx rfl (hb hby at_47) rfl ?_
        show Steps p.tables e below (s₁.setTop (mkF m 49 _ [(.int (p3 &&& (3 : Int32)))])) _
        refine XS.iconst X0.here hx rfl (hb hby at_49) ?_
        exact kt
      by_cases hc37 : (p3 &&& (3 : Int32)) = (2 : Int32)
      · skip
        obtain ⟨_, _, ⟨T38, L38, k38, n38⟩, -, X38, ⟨Lc38, hQ38, l38, y38, z38⟩, st38⟩ := Jvm.LawKit.callS X0 hx (y := (⟨"com/example/creditree/creditree/Money", "percentInHundredths", "(JJ)J"⟩ : MethodName)) hown (mvT hZ (hw _ (List.mem_of_getElem? (i := 0) rfl))) (mvT hZ (hw _ (List.mem_of_getElem? (i := 1) rfl))) (mvT hZ (hw _ (List.mem_of_getElem? (i := 2) rfl))) (mvT hZ (hw _ (List.mem_of_getElem? (i := 3) rfl))) (by decide) (backOf (W := 0) (rm1 l Z a0 hw [] (own_part q1) (own_w2 q2) h0 n0 Z0 ) hZ (hw _ (List.mem_of_getElem? (i := 3) rfl)) (hw _ (List.mem_of_getElem? (i := 2) rfl)) (by decide) (by decide)) (g := (mkF m 89 #[.val (.long q1), .second, .val (.long q2), .second, .val (.int p3), .val (.long (own_part q1)), .second, .val (.long (own_w2 q2)), .second, .val (.int (p3 &&& (3 : Int32))), .unset, .unset] [(.long (own_w2 q2)), (.long (own_part q1))])) rfl (by rw [hml]; rfl) (argsL := [(.long (own_part q1)), (.long (own_w2 q2))]) (rest := []) (lenOf pd_0_0 rfl) rfl (by show 2 * 0 + _ ≤ _; exact Nat.le_of_eq rfl) (hb hby at_89) (fun _ _ => ⟨rfl, e0, (by decide : 0 + 0 ≤ _), (by decide : 0 + 0 ≤ _)⟩)
        dsimp only [Pt.U, Pt.locs, Pt.cells, Pt.slots] at X38 l38 y38 z38 st38 hQ38
        subst l38 y38 z38
        obtain ⟨rfl, N38q, e38⟩ := hQ38
        have N38 := Fr.app N0 N38q
        have pre39 : ∀ t, Steps p.tables e below (T38.setTop (mkF m 98 #[.val (.long q1), .second, .val (.long q2), .second, .val (.int p3), .val (.long (own_part q1)), .second, .val (.long (own_w2 q2)), .second, .val (.int (p3 &&& (3 : Int32))), .val (.long (f1 (own_part q1) (own_w2 q2))), .second] [(.int (lcmpW (own_part q1) (0 : Int64)))])) t → Steps p.tables e below (s₁.setTop (entryFrame m #[(.long q1), (.long q2), (.int p3)] maxLocals)) t := fun t kt => by
          refine pre36 _ ?_
          show Steps p.tables e below (s₁.setTop (mkF m 50 #[.val (.long q1), .second, .val (.long q2), .second, .val (.int p3), .val (.long (own_part q1)), .second, .unset, .unset, .val (.int (p3 &&& (3 : Int32))), .unset, .unset] [(.int (2 : Int32)), (.int (p3 &&& (3 : Int32)))])) _
          refine XS.icmpNo X0.here hx rfl (hb hby at_50) rfl (teq hc37).2 ?_
          show Steps p.tables e below (s₁.setTop (mkF m 53 _ [])) _
          refine XS.lloadN X0.here hx rfl (hb hby at_53) rfl ?_
          show Steps p.tables e below (s₁.setTop (mkF m 54 _ [(.long q2)])) _
          refine X0.ldc2Long hx hown (mvT hZ (hw _ (List.mem_of_getElem? (i := 12) rfl))) (g := (mkF m 54 #[.val (.long q1), .second, .val (.long q2), .second, .val (.int p3), .val (.long (own_part q1)), .second, .unset, .unset, .val (.int (p3 &&& (3 : Int32))), .unset, .unset] [(.long q2)])) rfl (hb hby at_54) _ ?_
          show Steps p.tables e below (s₁.setTop (mkF m 57 _ [(.long (9223372036854775807 : Int64)), (.long q2)])) _
          refine XS.land X0.here hx rfl (hb hby at_57) rfl ?_
          show Steps p.tables e below (s₁.setTop (mkF m 58 _ [(.long (q2 &&& (9223372036854775807 : Int64)))])) _
          refine X0.ldc2Long hx hown (mvT hZ (hw _ (List.mem_of_getElem? (i := 16) rfl))) (g := (mkF m 58 #[.val (.long q1), .second, .val (.long q2), .second, .val (.int p3), .val (.long (own_part q1)), .second, .unset, .unset, .val (.int (p3 &&& (3 : Int32))), .unset, .unset] [(.long (q2 &&& (9223372036854775807 : Int64)))])) rfl (hb hby at_58) _ ?_
          show Steps p.tables e below (s₁.setTop (mkF m 61 _ [(.long (40001 : Int64)), (.long (q2 &&& (9223372036854775807 : Int64)))])) _
          refine XS.lrem X0.here hx rfl (hb hby at_61) rfl (by decide) ?_
          show Steps p.tables e below (s₁.setTop (mkF m 62 _ [(.long (own_w2 q2))])) _
          refine XS.lstore X0.here hx rfl (hb hby at_62) rfl (l' := #[.val (.long q1), .second, .val (.long q2), .second, .val (.int p3), .val (.long (own_part q1)), .second, .val (.long (own_w2 q2)), .second, .val (.int (p3 &&& (3 : Int32))), .unset, .unset]) rfl ?_
          show Steps p.tables e below (s₁.setTop (mkF m 64 _ [])) _
          refine XS.goto X0.here hx rfl (pc0 := 64) (pc' := 85) rfl (hb hby at_64) (by decide) (by decide) ?_
          show Steps p.tables e below (s₁.setTop (mkF m 85 _ [])) _
          refine XS.lload X0.here hx rfl (hb hby at_85) rfl ?_
          show Steps p.tables e below (s₁.setTop (mkF m 87 _ [(.long (own_part q1))])) _
          refine XS.lload X0.here hx rfl (hb hby at_87) rfl ?_
          show Steps p.tables e below (s₁.setTop (mkF m 89 _ [(.long (own_w2 q2)), (.long (own_part q1))])) _
          refine st38 _ ?_
          show Steps p.tables e below (T38.setTop (mkF m 92 _ [(.long (f1 (own_part q1) (own_w2 q2)))])) _
          refine XS.lstore X38.here hx rfl (hb hby at_92) rfl (l' := #[.val (.long q1), .second, .val (.long q2), .second, .val (.int p3), .val (.long (own_part q1)), .second, .val (.long (own_w2 q2)), .second, .val (.int (p3 &&& (3 : Int32))), .val (.long (f1 (own_part q1) (own_w2 q2))), .second]) rfl ?_
          show Steps p.tables e below (T38.setTop (mkF m 94 _ [])) _
          refine XS.lload X38.here hx rfl (hb hby at_94) rfl ?_
          show Steps p.tables e below (T38.setTop (mkF m 96 _ [(.long (own_part q1))])) _
          refine XS.lconst X38.here hx rfl (hb hby at_96) ?_
          show Steps p.tables e below (T38.setTop (mkF m 97 _ [(.long (0 : Int64)), (.long (own_part q1))])) _
          refine XS.lcmp X38.here hx rfl (hb hby at_97) rfl ?_
          exact kt
        by_cases hc40 : (own_part q1) < (0 : Int64)
        · skip
          have pre41 : ∀ t, Steps p.tables e below (T38.setTop (mkF m 123 #[.val (.long q1), .second, .val (.long q2), .second, .val (.int p3), .val (.long (own_part q1)), .second, .val (.long (own_w2 q2)), .second, .val (.int (p3 &&& (3 : Int32))), .val (.long (f1 (own_part q1) (own_w2 q2))), .second] [(.int (lcmpW (f1 (own_part q1) (own_w2 q2)) (-9223372036854775808 : Int64)))])) t → Steps p.tables e below (s₁.setTop (entryFrame m #[(.long q1), (.long q2), (.int p3)] maxLocals)) t := fun t kt => by
            refine pre39 _ ?_
            show Steps p.tables e below (T38.setTop (mkF m 98 #[.val (.long q1), .second, .val (.long q2), .second, .val (.int p3), .val (.long (own_part q1)), .second, .val (.long (own_w2 q2)), .second, .val (.int (p3 &&& (3 : Int32))), .val (.long (f1 (own_part q1) (own_w2 q2))), .second] [(.int (lcmpW (own_part q1) (0 : Int64)))])) _
            refine XS.ifYes X38.here hx rfl (pc0 := 98) (pc' := 117) rfl (hb hby at_98) rfl ((if0 _ _).trans (tlt ((lw_lt _ _).mpr hc40)).1) (by decide) (by decide) ?_
            show Steps p.tables e below (T38.setTop (mkF m 117 _ [])) _
            refine XS.lload X38.here hx rfl (hb hby at_117) rfl ?_
            show Steps p.tables e below (T38.setTop (mkF m 119 _ [(.long (f1 (own_part q1) (own_w2 q2)))])) _
            refine X38.ldc2Long hx hown (mvT hZ (hw _ (List.mem_of_getElem? (i := 15) rfl))) (g := (mkF m 119 #[.val (.long q1), .second, .val (.long q2), .second, .val (.int p3), .val (.long (own_part q1)), .second, .val (.long (own_w2 q2)), .second, .val (.int (p3 &&& (3 : Int32))), .val (.long (f1 (own_part q1) (own_w2 q2))), .second] [(.long (f1 (own_part q1) (own_w2 q2)))])) rfl (hb hby at_119) _ ?_
            show Steps p.tables e below (T38.setTop (mkF m 122 _ [(.long (-9223372036854775808 : Int64)), (.long (f1 (own_part q1) (own_w2 q2)))])) _
            refine XS.lcmp X38.here hx rfl (hb hby at_122) rfl ?_
            exact kt
          by_cases hc42 : (f1 (own_part q1) (own_w2 q2)) = (-9223372036854775808 : Int64)
          · skip
            obtain ⟨fs, hr, hrun, hended, hW, hsame⟩ := X38.leave (v := some (.int (1 : Int32))) (fun h => by rw [Bd.returns] at h; cases h) (by first | exact BodyLoose.notSynchronized Bd | exact Body.notSynchronized Bd)
            refine ⟨_, _, pre41 _ ?_, hrun, hended, _, _, rfl, ?_, ⟨_, rfl⟩, hW, hsame.mono (by decide) (by decide)⟩
            · show Steps p.tables e below (T38.setTop (mkF m 123 #[.val (.long q1), .second, .val (.long q2), .second, .val (.int p3), .val (.long (own_part q1)), .second, .val (.long (own_w2 q2)), .second, .val (.int (p3 &&& (3 : Int32))), .val (.long (f1 (own_part q1) (own_w2 q2))), .second] [(.int (lcmpW (f1 (own_part q1) (own_w2 q2)) (-9223372036854775808 : Int64)))])) _
              refine XS.ifNo X38.here hx rfl (hb hby at_123) rfl ((if0 _ _).trans (teq ((lw_eq _ _).mpr hc42)).2) ?_
              show Steps p.tables e below (T38.setTop (mkF m 126 _ [])) _
              refine XS.iconst X38.here hx rfl (hb hby at_126) ?_
              show Steps p.tables e below (T38.setTop (mkF m 127 _ [(.int (1 : Int32))])) _
              refine XS.goto X38.here hx rfl (pc0 := 127) (pc' := 131) rfl (hb hby at_127) (by decide) (by decide) ?_
              show Steps p.tables e below (T38.setTop (mkF m 131 #[.val (.long q1), .second, .val (.long q2), .second, .val (.int p3), .val (.long (own_part q1)), .second, .val (.long (own_w2 q2)), .second, .val (.int (p3 &&& (3 : Int32))), .val (.long (f1 (own_part q1) (own_w2 q2))), .second] [(.int (1 : Int32))])) _
              exact retN X38 hx (t := .boolean) Bd.returns (by simp) (hb hby at_131) hr
            · show Q0 Z q1 q2 p3 h0 n0 _ T38.heap _
              rw [e38]
              exact ⟨congrArg (fun z => some (Value.int z)) (by rw [f0, if_neg hc5, if_neg hc21, if_pos hc37, if_pos hc40, if_pos hc42] : f0 q1 q2 p3 = (1 : Int32)).symm, N38⟩
          · skip
            obtain ⟨fs, hr, hrun, hended, hW, hsame⟩ := X38.leave (v := some (.int (0 : Int32))) (fun h => by rw [Bd.returns] at h; cases h) (by first | exact BodyLoose.notSynchronized Bd | exact Body.notSynchronized Bd)
            refine ⟨_, _, pre41 _ ?_, hrun, hended, _, _, rfl, ?_, ⟨_, rfl⟩, hW, hsame.mono (by decide) (by decide)⟩
            · show Steps p.tables e below (T38.setTop (mkF m 123 #[.val (.long q1), .second, .val (.long q2), .second, .val (.int p3), .val (.long (own_part q1)), .second, .val (.long (own_w2 q2)), .second, .val (.int (p3 &&& (3 : Int32))), .val (.long (f1 (own_part q1) (own_w2 q2))), .second] [(.int (lcmpW (f1 (own_part q1) (own_w2 q2)) (-9223372036854775808 : Int64)))])) _
              refine XS.ifYes X38.here hx rfl (pc0 := 123) (pc' := 130) rfl (hb hby at_123) rfl ((if0 _ _).trans (feq (mt (lw_eq _ _).mp hc42)).2) (by decide) (by decide) ?_
              show Steps p.tables e below (T38.setTop (mkF m 130 _ [])) _
              refine XS.iconst X38.here hx rfl (hb hby at_130) ?_
              show Steps p.tables e below (T38.setTop (mkF m 131 #[.val (.long q1), .second, .val (.long q2), .second, .val (.int p3), .val (.long (own_part q1)), .second, .val (.long (own_w2 q2)), .second, .val (.int (p3 &&& (3 : Int32))), .val (.long (f1 (own_part q1) (own_w2 q2))), .second] [(.int (0 : Int32))])) _
              exact retN X38 hx (t := .boolean) Bd.returns (by simp) (hb hby at_131) hr
            · show Q0 Z q1 q2 p3 h0 n0 _ T38.heap _
              rw [e38]
              exact ⟨congrArg (fun z => some (Value.int z)) (by rw [f0, if_neg hc5, if_neg hc21, if_pos hc37, if_pos hc40, if_neg hc42] : f0 q1 q2 p3 = (0 : Int32)).symm, N38⟩
        · skip
          have pre43 : ∀ t, Steps p.tables e below (T38.setTop (mkF m 107 #[.val (.long q1), .second, .val (.long q2), .second, .val (.int p3), .val (.long (own_part q1)), .second, .val (.long (own_w2 q2)), .second, .val (.int (p3 &&& (3 : Int32))), .val (.long (f1 (own_part q1) (own_w2 q2))), .second] [(.int (lcmpW (own_part q1) (922337203685477 : Int64)))])) t → Steps p.tables e below (s₁.setTop (entryFrame m #[(.long q1), (.long q2), (.int p3)] maxLocals)) t := fun t kt => by
            refine pre39 _ ?_
            show Steps p.tables e below (T38.setTop (mkF m 98 #[.val (.long q1), .second, .val (.long q2), .second, .val (.int p3), .val (.long (own_part q1)), .second, .val (.long (own_w2 q2)), .second, .val (.int (p3 &&& (3 : Int32))), .val (.long (f1 (own_part q1) (own_w2 q2))), .second] [(.int (lcmpW (own_part q1) (0 : Int64)))])) _
            refine XS.ifNo X38.here hx rfl (hb hby at_98) rfl ((if0 _ _).trans (flt (mt (lw_lt _ _).mp hc40)).1) ?_
            show Steps p.tables e below (T38.setTop (mkF m 101 _ [])) _
            refine XS.lload X38.here hx rfl (hb hby at_101) rfl ?_
            show Steps p.tables e below (T38.setTop (mkF m 103 _ [(.long (own_part q1))])) _
            refine X38.ldc2Long hx hown (mvT hZ (hw _ (List.mem_of_getElem? (i := 6) rfl))) (g := (mkF m 103 #[.val (.long q1), .second, .val (.long q2), .second, .val (.int p3), .val (.long (own_part q1)), .second, .val (.long (own_w2 q2)), .second, .val (.int (p3 &&& (3 : Int32))), .val (.long (f1 (own_part q1) (own_w2 q2))), .second] [(.long (own_part q1))])) rfl (hb hby at_103) _ ?_
            show Steps p.tables e below (T38.setTop (mkF m 106 _ [(.long (922337203685477 : Int64)), (.long (own_part q1))])) _
            refine XS.lcmp X38.here hx rfl (hb hby at_106) rfl ?_
            exact kt
          by_cases hc44 : (922337203685477 : Int64) < (own_part q1)
          · skip
            have pre45 : ∀ t, Steps p.tables e below (T38.setTop (mkF m 123 #[.val (.long q1), .second, .val (.long q2), .second, .val (.int p3), .val (.long (own_part q1)), .second, .val (.long (own_w2 q2)), .second, .val (.int (p3 &&& (3 : Int32))), .val (.long (f1 (own_part q1) (own_w2 q2))), .second] [(.int (lcmpW (f1 (own_part q1) (own_w2 q2)) (-9223372036854775808 : Int64)))])) t → Steps p.tables e below (s₁.setTop (entryFrame m #[(.long q1), (.long q2), (.int p3)] maxLocals)) t := fun t kt => by
              refine pre43 _ ?_
              show Steps p.tables e below (T38.setTop (mkF m 107 #[.val (.long q1), .second, .val (.long q2), .second, .val (.int p3), .val (.long (own_part q1)), .second, .val (.long (own_w2 q2)), .second, .val (.int (p3 &&& (3 : Int32))), .val (.long (f1 (own_part q1) (own_w2 q2))), .second] [(.int (lcmpW (own_part q1) (922337203685477 : Int64)))])) _
              refine XS.ifYes X38.here hx rfl (pc0 := 107) (pc' := 117) rfl (hb hby at_107) rfl ((if0 _ _).trans (tlt ((lw_gt _ _).mpr hc44)).2.2.1) (by decide) (by decide) ?_
              show Steps p.tables e below (T38.setTop (mkF m 117 _ [])) _
              refine XS.lload X38.here hx rfl (hb hby at_117) rfl ?_
              show Steps p.tables e below (T38.setTop (mkF m 119 _ [(.long (f1 (own_part q1) (own_w2 q2)))])) _
              refine X38.ldc2Long hx hown (mvT hZ (hw _ (List.mem_of_getElem? (i := 15) rfl))) (g := (mkF m 119 #[.val (.long q1), .second, .val (.long q2), .second, .val (.int p3), .val (.long (own_part q1)), .second, .val (.long (own_w2 q2)), .second, .val (.int (p3 &&& (3 : Int32))), .val (.long (f1 (own_part q1) (own_w2 q2))), .second] [(.long (f1 (own_part q1) (own_w2 q2)))])) rfl (hb hby at_119) _ ?_
              show Steps p.tables e below (T38.setTop (mkF m 122 _ [(.long (-9223372036854775808 : Int64)), (.long (f1 (own_part q1) (own_w2 q2)))])) _
              refine XS.lcmp X38.here hx rfl (hb hby at_122) rfl ?_
              exact kt
            by_cases hc46 : (f1 (own_part q1) (own_w2 q2)) = (-9223372036854775808 : Int64)
            · skip
              obtain ⟨fs, hr, hrun, hended, hW, hsame⟩ := X38.leave (v := some (.int (1 : Int32))) (fun h => by rw [Bd.returns] at h; cases h) (by first | exact BodyLoose.notSynchronized Bd | exact Body.notSynchronized Bd)
              refine ⟨_, _, pre45 _ ?_, hrun, hended, _, _, rfl, ?_, ⟨_, rfl⟩, hW, hsame.mono (by decide) (by decide)⟩
              · show Steps p.tables e below (T38.setTop (mkF m 123 #[.val (.long q1), .second, .val (.long q2), .second, .val (.int p3), .val (.long (own_part q1)), .second, .val (.long (own_w2 q2)), .second, .val (.int (p3 &&& (3 : Int32))), .val (.long (f1 (own_part q1) (own_w2 q2))), .second] [(.int (lcmpW (f1 (own_part q1) (own_w2 q2)) (-9223372036854775808 : Int64)))])) _
                refine XS.ifNo X38.here hx rfl (hb hby at_123) rfl ((if0 _ _).trans (teq ((lw_eq _ _).mpr hc46)).2) ?_
                show Steps p.tables e below (T38.setTop (mkF m 126 _ [])) _
                refine XS.iconst X38.here hx rfl (hb hby at_126) ?_
                show Steps p.tables e below (T38.setTop (mkF m 127 _ [(.int (1 : Int32))])) _
                refine XS.goto X38.here hx rfl (pc0 := 127) (pc' := 131) rfl (hb hby at_127) (by decide) (by decide) ?_
                show Steps p.tables e below (T38.setTop (mkF m 131 #[.val (.long q1), .second, .val (.long q2), .second, .val (.int p3), .val (.long (own_part q1)), .second, .val (.long (own_w2 q2)), .second, .val (.int (p3 &&& (3 : Int32))), .val (.long (f1 (own_part q1) (own_w2 q2))), .second] [(.int (1 : Int32))])) _
                exact retN X38 hx (t := .boolean) Bd.returns (by simp) (hb hby at_131) hr
              · show Q0 Z q1 q2 p3 h0 n0 _ T38.heap _
                rw [e38]
                exact ⟨congrArg (fun z => some (Value.int z)) (by rw [f0, if_neg hc5, if_neg hc21, if_pos hc37, if_neg hc40, if_pos hc44, if_pos hc46] : f0 q1 q2 p3 = (1 : Int32)).symm, N38⟩
            · skip
              obtain ⟨fs, hr, hrun, hended, hW, hsame⟩ := X38.leave (v := some (.int (0 : Int32))) (fun h => by rw [Bd.returns] at h; cases h) (by first | exact BodyLoose.notSynchronized Bd | exact Body.notSynchronized Bd)
              refine ⟨_, _, pre45 _ ?_, hrun, hended, _, _, rfl, ?_, ⟨_, rfl⟩, hW, hsame.mono (by decide) (by decide)⟩
              · show Steps p.tables e below (T38.setTop (mkF m 123 #[.val (.long q1), .second, .val (.long q2), .second, .val (.int p3), .val (.long (own_part q1)), .second, .val (.long (own_w2 q2)), .second, .val (.int (p3 &&& (3 : Int32))), .val (.long (f1 (own_part q1) (own_w2 q2))), .second] [(.int (lcmpW (f1 (own_part q1) (own_w2 q2)) (-9223372036854775808 : Int64)))])) _
                refine XS.ifYes X38.here hx rfl (pc0 := 123) (pc' := 130) rfl (hb hby at_123) rfl ((if0 _ _).trans (feq (mt (lw_eq _ _).mp hc46)).2) (by decide) (by decide) ?_
                show Steps p.tables e below (T38.setTop (mkF m 130 _ [])) _
                refine XS.iconst X38.here hx rfl (hb hby at_130) ?_
                show Steps p.tables e below (T38.setTop (mkF m 131 #[.val (.long q1), .second, .val (.long q2), .second, .val (.int p3), .val (.long (own_part q1)), .second, .val (.long (own_w2 q2)), .second, .val (.int (p3 &&& (3 : Int32))), .val (.long (f1 (own_part q1) (own_w2 q2))), .second] [(.int (0 : Int32))])) _
                exact retN X38 hx (t := .boolean) Bd.returns (by simp) (hb hby at_131) hr
              · show Q0 Z q1 q2 p3 h0 n0 _ T38.heap _
                rw [e38]
                exact ⟨congrArg (fun z => some (Value.int z)) (by rw [f0, if_neg hc5, if_neg hc21, if_pos hc37, if_neg hc40, if_pos hc44, if_neg hc46] : f0 q1 q2 p3 = (0 : Int32)).symm, N38⟩
          · skip
            have pre47 : ∀ t, Steps p.tables e below (T38.setTop (mkF m 114 #[.val (.long q1), .second, .val (.long q2), .second, .val (.int p3), .val (.long (own_part q1)), .second, .val (.long (own_w2 q2)), .second, .val (.int (p3 &&& (3 : Int32))), .val (.long (f1 (own_part q1) (own_w2 q2))), .second] [(.int (lcmpW (own_w2 q2) (0 : Int64)))])) t → Steps p.tables e below (s₁.setTop (entryFrame m #[(.long q1), (.long q2), (.int p3)] maxLocals)) t := fun t kt => by
              refine pre43 _ ?_
              show Steps p.tables e below (T38.setTop (mkF m 107 #[.val (.long q1), .second, .val (.long q2), .second, .val (.int p3), .val (.long (own_part q1)), .second, .val (.long (own_w2 q2)), .second, .val (.int (p3 &&& (3 : Int32))), .val (.long (f1 (own_part q1) (own_w2 q2))), .second] [(.int (lcmpW (own_part q1) (922337203685477 : Int64)))])) _
              refine XS.ifNo X38.here hx rfl (hb hby at_107) rfl ((if0 _ _).trans (flt (mt (lw_gt _ _).mp hc44)).2.2.1) ?_
              show Steps p.tables e below (T38.setTop (mkF m 110 _ [])) _
              refine XS.lload X38.here hx rfl (hb hby at_110) rfl ?_
              show Steps p.tables e below (T38.setTop (mkF m 112 _ [(.long (own_w2 q2))])) _
              refine XS.lconst X38.here hx rfl (hb hby at_112) ?_
              show Steps p.tables e below (T38.setTop (mkF m 113 _ [(.long (0 : Int64)), (.long (own_w2 q2))])) _
              refine XS.lcmp X38.here hx rfl (hb hby at_113) rfl ?_
              exact kt
            by_cases hc48 : (0 : Int64) < (own_w2 q2)
            · skip
              obtain ⟨_, _, ⟨T49, L49, k49, n49⟩, -, X49, ⟨Lc49, hQ49, l49, y49, z49⟩, st49⟩ := Jvm.LawKit.callS X38 hx (y := (⟨"com/example/creditree/creditree/MoneyPercentInHundredthsPinLaw", "isRounded", "(JJJ)Z"⟩ : MethodName)) hown (mvT hZ (hw _ (List.mem_of_getElem? (i := 8) rfl))) (mvT hZ (hw _ (List.mem_of_getElem? (i := 9) rfl))) (mvT hZ (hw _ (List.mem_of_getElem? (i := 10) rfl))) (mvT hZ (hw _ (List.mem_of_getElem? (i := 11) rfl))) (by decide) (backOf (W := 0) (rm2 l Z a0 hw [] ((own_part q1) * (10000 : Int64)) (own_w2 q2) (f1 (own_part q1) (own_w2 q2)) h0 n0 Z0 (own_nz_J hc48)) hZ (hw _ (List.mem_of_getElem? (i := 11) rfl)) (hw _ (List.mem_of_getElem? (i := 10) rfl)) (by decide) (by decide)) (g := (mkF m 142 #[.val (.long q1), .second, .val (.long q2), .second, .val (.int p3), .val (.long (own_part q1)), .second, .val (.long (own_w2 q2)), .second, .val (.int (p3 &&& (3 : Int32))), .val (.long (f1 (own_part q1) (own_w2 q2))), .second] [(.long (f1 (own_part q1) (own_w2 q2))), (.long (own_w2 q2)), (.long ((own_part q1) * (10000 : Int64)))])) rfl (by rw [hml]; rfl) (argsL := [(.long ((own_part q1) * (10000 : Int64))), (.long (own_w2 q2)), (.long (f1 (own_part q1) (own_w2 q2)))]) (rest := []) (lenOf pd_0_1 rfl) rfl (by show 2 * 0 + _ ≤ _; exact Nat.le_of_eq rfl) (hb hby at_142) (fun _ _ => ⟨rfl, e38, (by decide : 0 + 0 ≤ _), (by decide : 0 + 0 ≤ _)⟩)
              dsimp only [Pt.U, Pt.locs, Pt.cells, Pt.slots] at X49 l49 y49 z49 st49 hQ49
              subst l49 y49 z49
              obtain ⟨rfl, N49q, e49⟩ := hQ49
              have N49 := Fr.app N38 N49q
              obtain ⟨fs, hr, hrun, hended, hW, hsame⟩ := X49.leave (v := some (.int (nar .boolean (f2 ((own_part q1) * (10000 : Int64)) (own_w2 q2) (f1 (own_part q1) (own_w2 q2)))))) (fun h => by rw [Bd.returns] at h; cases h) (by first | exact BodyLoose.notSynchronized Bd | exact Body.notSynchronized Bd)
              refine ⟨_, _, pre47 _ ?_, hrun, hended, _, _, rfl, ?_, ⟨_, rfl⟩, hW, hsame.mono (by decide) (by decide)⟩
              · show Steps p.tables e below (T38.setTop (mkF m 114 #[.val (.long q1), .second, .val (.long q2), .second, .val (.int p3), .val (.long (own_part q1)), .second, .val (.long (own_w2 q2)), .second, .val (.int (p3 &&& (3 : Int32))), .val (.long (f1 (own_part q1) (own_w2 q2))), .second] [(.int (lcmpW (own_w2 q2) (0 : Int64)))])) _
                refine XS.ifYes X38.here hx rfl (pc0 := 114) (pc' := 132) rfl (hb hby at_114) rfl ((if0 _ _).trans (tlt ((lw_gt _ _).mpr hc48)).2.2.1) (by decide) (by decide) ?_
                show Steps p.tables e below (T38.setTop (mkF m 132 _ [])) _
                refine XS.lload X38.here hx rfl (hb hby at_132) rfl ?_
                show Steps p.tables e below (T38.setTop (mkF m 134 _ [(.long (own_part q1))])) _
                refine X38.ldc2Long hx hown (mvT hZ (hw _ (List.mem_of_getElem? (i := 7) rfl))) (g := (mkF m 134 #[.val (.long q1), .second, .val (.long q2), .second, .val (.int p3), .val (.long (own_part q1)), .second, .val (.long (own_w2 q2)), .second, .val (.int (p3 &&& (3 : Int32))), .val (.long (f1 (own_part q1) (own_w2 q2))), .second] [(.long (own_part q1))])) rfl (hb hby at_134) _ ?_
                show Steps p.tables e below (T38.setTop (mkF m 137 _ [(.long (10000 : Int64)), (.long (own_part q1))])) _
                refine XS.lmul X38.here hx rfl (hb hby at_137) rfl ?_
                show Steps p.tables e below (T38.setTop (mkF m 138 _ [(.long ((own_part q1) * (10000 : Int64)))])) _
                refine XS.lload X38.here hx rfl (hb hby at_138) rfl ?_
                show Steps p.tables e below (T38.setTop (mkF m 140 _ [(.long (own_w2 q2)), (.long ((own_part q1) * (10000 : Int64)))])) _
                refine XS.lload X38.here hx rfl (hb hby at_140) rfl ?_
                show Steps p.tables e below (T38.setTop (mkF m 142 _ [(.long (f1 (own_part q1) (own_w2 q2))), (.long (own_w2 q2)), (.long ((own_part q1) * (10000 : Int64)))])) _
                refine st49 _ ?_
                show Steps p.tables e below (T49.setTop (mkF m 145 #[.val (.long q1), .second, .val (.long q2), .second, .val (.int p3), .val (.long (own_part q1)), .second, .val (.long (own_w2 q2)), .second, .val (.int (p3 &&& (3 : Int32))), .val (.long (f1 (own_part q1) (own_w2 q2))), .second] [(.int (f2 ((own_part q1) * (10000 : Int64)) (own_w2 q2) (f1 (own_part q1) (own_w2 q2))))])) _
                exact retN X49 hx (t := .boolean) Bd.returns (by simp) (hb hby at_145) hr
              · show Q0 Z q1 q2 p3 h0 n0 _ T49.heap _
                rw [e49]
                exact ⟨congrArg (fun z => some (Value.int z)) (by rw [f0, if_neg hc5, if_neg hc21, if_pos hc37, if_neg hc40, if_neg hc44, if_pos hc48] : f0 q1 q2 p3 = (nar .boolean (f2 ((own_part q1) * (10000 : Int64)) (own_w2 q2) (f1 (own_part q1) (own_w2 q2))))).symm, N49⟩
            · skip
              have pre50 : ∀ t, Steps p.tables e below (T38.setTop (mkF m 123 #[.val (.long q1), .second, .val (.long q2), .second, .val (.int p3), .val (.long (own_part q1)), .second, .val (.long (own_w2 q2)), .second, .val (.int (p3 &&& (3 : Int32))), .val (.long (f1 (own_part q1) (own_w2 q2))), .second] [(.int (lcmpW (f1 (own_part q1) (own_w2 q2)) (-9223372036854775808 : Int64)))])) t → Steps p.tables e below (s₁.setTop (entryFrame m #[(.long q1), (.long q2), (.int p3)] maxLocals)) t := fun t kt => by
                refine pre47 _ ?_
                show Steps p.tables e below (T38.setTop (mkF m 114 #[.val (.long q1), .second, .val (.long q2), .second, .val (.int p3), .val (.long (own_part q1)), .second, .val (.long (own_w2 q2)), .second, .val (.int (p3 &&& (3 : Int32))), .val (.long (f1 (own_part q1) (own_w2 q2))), .second] [(.int (lcmpW (own_w2 q2) (0 : Int64)))])) _
                refine XS.ifNo X38.here hx rfl (hb hby at_114) rfl ((if0 _ _).trans (flt (mt (lw_gt _ _).mp hc48)).2.2.1) ?_
                show Steps p.tables e below (T38.setTop (mkF m 117 _ [])) _
                refine XS.lload X38.here hx rfl (hb hby at_117) rfl ?_
                show Steps p.tables e below (T38.setTop (mkF m 119 _ [(.long (f1 (own_part q1) (own_w2 q2)))])) _
                refine X38.ldc2Long hx hown (mvT hZ (hw _ (List.mem_of_getElem? (i := 15) rfl))) (g := (mkF m 119 #[.val (.long q1), .second, .val (.long q2), .second, .val (.int p3), .val (.long (own_part q1)), .second, .val (.long (own_w2 q2)), .second, .val (.int (p3 &&& (3 : Int32))), .val (.long (f1 (own_part q1) (own_w2 q2))), .second] [(.long (f1 (own_part q1) (own_w2 q2)))])) rfl (hb hby at_119) _ ?_
                show Steps p.tables e below (T38.setTop (mkF m 122 _ [(.long (-9223372036854775808 : Int64)), (.long (f1 (own_part q1) (own_w2 q2)))])) _
                refine XS.lcmp X38.here hx rfl (hb hby at_122) rfl ?_
                exact kt
              by_cases hc51 : (f1 (own_part q1) (own_w2 q2)) = (-9223372036854775808 : Int64)
              · skip
                obtain ⟨fs, hr, hrun, hended, hW, hsame⟩ := X38.leave (v := some (.int (1 : Int32))) (fun h => by rw [Bd.returns] at h; cases h) (by first | exact BodyLoose.notSynchronized Bd | exact Body.notSynchronized Bd)
                refine ⟨_, _, pre50 _ ?_, hrun, hended, _, _, rfl, ?_, ⟨_, rfl⟩, hW, hsame.mono (by decide) (by decide)⟩
                · show Steps p.tables e below (T38.setTop (mkF m 123 #[.val (.long q1), .second, .val (.long q2), .second, .val (.int p3), .val (.long (own_part q1)), .second, .val (.long (own_w2 q2)), .second, .val (.int (p3 &&& (3 : Int32))), .val (.long (f1 (own_part q1) (own_w2 q2))), .second] [(.int (lcmpW (f1 (own_part q1) (own_w2 q2)) (-9223372036854775808 : Int64)))])) _
                  refine XS.ifNo X38.here hx rfl (hb hby at_123) rfl ((if0 _ _).trans (teq ((lw_eq _ _).mpr hc51)).2) ?_
                  show Steps p.tables e below (T38.setTop (mkF m 126 _ [])) _
                  refine XS.iconst X38.here hx rfl (hb hby at_126) ?_
                  show Steps p.tables e below (T38.setTop (mkF m 127 _ [(.int (1 : Int32))])) _
                  refine XS.goto X38.here hx rfl (pc0 := 127) (pc' := 131) rfl (hb hby at_127) (by decide) (by decide) ?_
                  show Steps p.tables e below (T38.setTop (mkF m 131 #[.val (.long q1), .second, .val (.long q2), .second, .val (.int p3), .val (.long (own_part q1)), .second, .val (.long (own_w2 q2)), .second, .val (.int (p3 &&& (3 : Int32))), .val (.long (f1 (own_part q1) (own_w2 q2))), .second] [(.int (1 : Int32))])) _
                  exact retN X38 hx (t := .boolean) Bd.returns (by simp) (hb hby at_131) hr
                · show Q0 Z q1 q2 p3 h0 n0 _ T38.heap _
                  rw [e38]
                  exact ⟨congrArg (fun z => some (Value.int z)) (by rw [f0, if_neg hc5, if_neg hc21, if_pos hc37, if_neg hc40, if_neg hc44, if_neg hc48, if_pos hc51] : f0 q1 q2 p3 = (1 : Int32)).symm, N38⟩
              · skip
                obtain ⟨fs, hr, hrun, hended, hW, hsame⟩ := X38.leave (v := some (.int (0 : Int32))) (fun h => by rw [Bd.returns] at h; cases h) (by first | exact BodyLoose.notSynchronized Bd | exact Body.notSynchronized Bd)
                refine ⟨_, _, pre50 _ ?_, hrun, hended, _, _, rfl, ?_, ⟨_, rfl⟩, hW, hsame.mono (by decide) (by decide)⟩
                · show Steps p.tables e below (T38.setTop (mkF m 123 #[.val (.long q1), .second, .val (.long q2), .second, .val (.int p3), .val (.long (own_part q1)), .second, .val (.long (own_w2 q2)), .second, .val (.int (p3 &&& (3 : Int32))), .val (.long (f1 (own_part q1) (own_w2 q2))), .second] [(.int (lcmpW (f1 (own_part q1) (own_w2 q2)) (-9223372036854775808 : Int64)))])) _
                  refine XS.ifYes X38.here hx rfl (pc0 := 123) (pc' := 130) rfl (hb hby at_123) rfl ((if0 _ _).trans (feq (mt (lw_eq _ _).mp hc51)).2) (by decide) (by decide) ?_
                  show Steps p.tables e below (T38.setTop (mkF m 130 _ [])) _
                  refine XS.iconst X38.here hx rfl (hb hby at_130) ?_
                  show Steps p.tables e below (T38.setTop (mkF m 131 #[.val (.long q1), .second, .val (.long q2), .second, .val (.int p3), .val (.long (own_part q1)), .second, .val (.long (own_w2 q2)), .second, .val (.int (p3 &&& (3 : Int32))), .val (.long (f1 (own_part q1) (own_w2 q2))), .second] [(.int (0 : Int32))])) _
                  exact retN X38 hx (t := .boolean) Bd.returns (by simp) (hb hby at_131) hr
                · show Q0 Z q1 q2 p3 h0 n0 _ T38.heap _
                  rw [e38]
                  exact ⟨congrArg (fun z => some (Value.int z)) (by rw [f0, if_neg hc5, if_neg hc21, if_pos hc37, if_neg hc40, if_neg hc44, if_neg hc48, if_neg hc51] : f0 q1 q2 p3 = (0 : Int32)).symm, N38⟩
      · skip
        obtain ⟨_, _, ⟨T52, L52, k52, n52⟩, -, X52, ⟨Lc52, hQ52, l52, y52, z52⟩, st52⟩ := Jvm.LawKit.callS X0 hx (y := (⟨"com/example/creditree/creditree/Money", "percentInHundredths", "(JJ)J"⟩ : MethodName)) hown (mvT hZ (hw _ (List.mem_of_getElem? (i := 0) rfl))) (mvT hZ (hw _ (List.mem_of_getElem? (i := 1) rfl))) (mvT hZ (hw _ (List.mem_of_getElem? (i := 2) rfl))) (mvT hZ (hw _ (List.mem_of_getElem? (i := 3) rfl))) (by decide) (backOf (W := 0) (rm1 l Z a0 hw [] (own_part q1) (own_w3 q1 q2) h0 n0 Z0 ) hZ (hw _ (List.mem_of_getElem? (i := 3) rfl)) (hw _ (List.mem_of_getElem? (i := 2) rfl)) (by decide) (by decide)) (g := (mkF m 89 #[.val (.long q1), .second, .val (.long q2), .second, .val (.int p3), .val (.long (own_part q1)), .second, .val (.long (own_w3 q1 q2)), .second, .val (.int (p3 &&& (3 : Int32))), .unset, .unset] [(.long (own_w3 q1 q2)), (.long (own_part q1))])) rfl (by rw [hml]; rfl) (argsL := [(.long (own_part q1)), (.long (own_w3 q1 q2))]) (rest := []) (lenOf pd_0_0 rfl) rfl (by show 2 * 0 + _ ≤ _; exact Nat.le_of_eq rfl) (hb hby at_89) (fun _ _ => ⟨rfl, e0, (by decide : 0 + 0 ≤ _), (by decide : 0 + 0 ≤ _)⟩)
        dsimp only [Pt.U, Pt.locs, Pt.cells, Pt.slots] at X52 l52 y52 z52 st52 hQ52
        subst l52 y52 z52
        obtain ⟨rfl, N52q, e52⟩ := hQ52
        have N52 := Fr.app N0 N52q
        have pre53 : ∀ t, Steps p.tables e below (T52.setTop (mkF m 98 #[.val (.long q1), .second, .val (.long q2), .second, .val (.int p3), .val (.long (own_part q1)), .second, .val (.long (own_w3 q1 q2)), .second, .val (.int (p3 &&& (3 : Int32))), .val (.long (f1 (own_part q1) (own_w3 q1 q2))), .second] [(.int (lcmpW (own_part q1) (0 : Int64)))])) t → Steps p.tables e below (s₁.setTop (entryFrame m #[(.long q1), (.long q2), (.int p3)] maxLocals)) t := fun t kt => by
          refine pre36 _ ?_
          show Steps p.tables e below (s₁.setTop (mkF m 50 #[.val (.long q1), .second, .val (.long q2), .second, .val (.int p3), .val (.long (own_part q1)), .second, .unset, .unset, .val (.int (p3 &&& (3 : Int32))), .unset, .unset] [(.int (2 : Int32)), (.int (p3 &&& (3 : Int32)))])) _
          refine XS.icmpYes X0.here hx rfl (pc0 := 50) (pc' := 67) rfl (hb hby at_50) rfl (feq hc37).2 (by decide) (by decide) ?_
          show Steps p.tables e below (s₁.setTop (mkF m 67 _ [])) _
          refine XS.lloadN X0.here hx rfl (hb hby at_67) rfl ?_
          show Steps p.tables e below (s₁.setTop (mkF m 68 _ [(.long q2)])) _
          refine X0.ldc2Long hx hown (mvT hZ (hw _ (List.mem_of_getElem? (i := 12) rfl))) (g := (mkF m 68 #[.val (.long q1), .second, .val (.long q2), .second, .val (.int p3), .val (.long (own_part q1)), .second, .unset, .unset, .val (.int (p3 &&& (3 : Int32))), .unset, .unset] [(.long q2)])) rfl (hb hby at_68) _ ?_
          show Steps p.tables e below (s₁.setTop (mkF m 71 _ [(.long (9223372036854775807 : Int64)), (.long q2)])) _
          refine XS.land X0.here hx rfl (hb hby at_71) rfl ?_
          show Steps p.tables e below (s₁.setTop (mkF m 72 _ [(.long (q2 &&& (9223372036854775807 : Int64)))])) _
          refine XS.lload X0.here hx rfl (hb hby at_72) rfl ?_
          show Steps p.tables e below (s₁.setTop (mkF m 74 _ [(.long (own_part q1)), (.long (q2 &&& (9223372036854775807 : Int64)))])) _
          refine X0.ldc2Long hx hown (mvT hZ (hw _ (List.mem_of_getElem? (i := 7) rfl))) (g := (mkF m 74 #[.val (.long q1), .second, .val (.long q2), .second, .val (.int p3), .val (.long (own_part q1)), .second, .unset, .unset, .val (.int (p3 &&& (3 : Int32))), .unset, .unset] [(.long (own_part q1)), (.long (q2 &&& (9223372036854775807 : Int64)))])) rfl (hb hby at_74) _ ?_
          show Steps p.tables e below (s₁.setTop (mkF m 77 _ [(.long (10000 : Int64)), (.long (own_part q1)), (.long (q2 &&& (9223372036854775807 : Int64)))])) _
          refine XS.lmul X0.here hx rfl (hb hby at_77) rfl ?_
          show Steps p.tables e below (s₁.setTop (mkF m 78 _ [(.long ((own_part q1) * (10000 : Int64))), (.long (q2 &&& (9223372036854775807 : Int64)))])) _
          refine XS.lconst X0.here hx rfl (hb hby at_78) ?_
          show Steps p.tables e below (s₁.setTop (mkF m 79 _ [(.long (1 : Int64)), (.long ((own_part q1) * (10000 : Int64))), (.long (q2 &&& (9223372036854775807 : Int64)))])) _
          refine XS.ladd X0.here hx rfl (hb hby at_79) rfl ?_
          show Steps p.tables e below (s₁.setTop (mkF m 80 _ [(.long (((own_part q1) * (10000 : Int64)) + (1 : Int64))), (.long (q2 &&& (9223372036854775807 : Int64)))])) _
          refine XS.lrem X0.here hx rfl (hb hby at_80) rfl (own_nz80 q1) ?_
          show Steps p.tables e below (s₁.setTop (mkF m 81 _ [(.long ((q2 &&& (9223372036854775807 : Int64)) - ((q2 &&& (9223372036854775807 : Int64)) / (((own_part q1) * (10000 : Int64)) + (1 : Int64))) * (((own_part q1) * (10000 : Int64)) + (1 : Int64))))])) _
          refine XS.lconst X0.here hx rfl (hb hby at_81) ?_
          show Steps p.tables e below (s₁.setTop (mkF m 82 _ [(.long (1 : Int64)), (.long ((q2 &&& (9223372036854775807 : Int64)) - ((q2 &&& (9223372036854775807 : Int64)) / (((own_part q1) * (10000 : Int64)) + (1 : Int64))) * (((own_part q1) * (10000 : Int64)) + (1 : Int64))))])) _
          refine XS.ladd X0.here hx rfl (hb hby at_82) rfl ?_
          show Steps p.tables e below (s₁.setTop (mkF m 83 _ [(.long (own_w3 q1 q2))])) _
          refine XS.lstore X0.here hx rfl (hb hby at_83) rfl (l' := #[.val (.long q1), .second, .val (.long q2), .second, .val (.int p3), .val (.long (own_part q1)), .second, .val (.long (own_w3 q1 q2)), .second, .val (.int (p3 &&& (3 : Int32))), .unset, .unset]) rfl ?_
          show Steps p.tables e below (s₁.setTop (mkF m 85 _ [])) _
          refine XS.lload X0.here hx rfl (hb hby at_85) rfl ?_
          show Steps p.tables e below (s₁.setTop (mkF m 87 _ [(.long (own_part q1))])) _
          refine XS.lload X0.here hx rfl (hb hby at_87) rfl ?_
          show Steps p.tables e below (s₁.setTop (mkF m 89 _ [(.long (own_w3 q1 q2)), (.long (own_part q1))])) _
          refine st52 _ ?_
          show Steps p.tables e below (T52.setTop (mkF m 92 _ [(.long (f1 (own_part q1) (own_w3 q1 q2)))])) _
          refine XS.lstore X52.here hx rfl (hb hby at_92) rfl (l' := #[.val (.long q1), .second, .val (.long q2), .second, .val (.int p3), .val (.long (own_part q1)), .second, .val (.long (own_w3 q1 q2)), .second, .val (.int (p3 &&& (3 : Int32))), .val (.long (f1 (own_part q1) (own_w3 q1 q2))), .second]) rfl ?_
          show Steps p.tables e below (T52.setTop (mkF m 94 _ [])) _
          refine XS.lload X52.here hx rfl (hb hby at_94) rfl ?_
          show Steps p.tables e below (T52.setTop (mkF m 96 _ [(.long (own_part q1))])) _
          refine XS.lconst X52.here hx rfl (hb hby at_96) ?_
          show Steps p.tables e below (T52.setTop (mkF m 97 _ [(.long (0 : Int64)), (.long (own_part q1))])) _
          refine XS.lcmp X52.here hx rfl (hb hby at_97) rfl ?_
          exact kt
        by_cases hc54 : (own_part q1) < (0 : Int64)
        · skip
          have pre55 : ∀ t, Steps p.tables e below (T52.setTop (mkF m 123 #[.val (.long q1), .second, .val (.long q2), .second, .val (.int p3), .val (.long (own_part q1)), .second, .val (.long (own_w3 q1 q2)), .second, .val (.int (p3 &&& (3 : Int32))), .val (.long (f1 (own_part q1) (own_w3 q1 q2))), .second] [(.int (lcmpW (f1 (own_part q1) (own_w3 q1 q2)) (-9223372036854775808 : Int64)))])) t → Steps p.tables e below (s₁.setTop (entryFrame m #[(.long q1), (.long q2), (.int p3)] maxLocals)) t := fun t kt => by
            refine pre53 _ ?_
            show Steps p.tables e below (T52.setTop (mkF m 98 #[.val (.long q1), .second, .val (.long q2), .second, .val (.int p3), .val (.long (own_part q1)), .second, .val (.long (own_w3 q1 q2)), .second, .val (.int (p3 &&& (3 : Int32))), .val (.long (f1 (own_part q1) (own_w3 q1 q2))), .second] [(.int (lcmpW (own_part q1) (0 : Int64)))])) _
            refine XS.ifYes X52.here hx rfl (pc0 := 98) (pc' := 117) rfl (hb hby at_98) rfl ((if0 _ _).trans (tlt ((lw_lt _ _).mpr hc54)).1) (by decide) (by decide) ?_
            show Steps p.tables e below (T52.setTop (mkF m 117 _ [])) _
            refine XS.lload X52.here hx rfl (hb hby at_117) rfl ?_
            show Steps p.tables e below (T52.setTop (mkF m 119 _ [(.long (f1 (own_part q1) (own_w3 q1 q2)))])) _
            refine X52.ldc2Long hx hown (mvT hZ (hw _ (List.mem_of_getElem? (i := 15) rfl))) (g := (mkF m 119 #[.val (.long q1), .second, .val (.long q2), .second, .val (.int p3), .val (.long (own_part q1)), .second, .val (.long (own_w3 q1 q2)), .second, .val (.int (p3 &&& (3 : Int32))), .val (.long (f1 (own_part q1) (own_w3 q1 q2))), .second] [(.long (f1 (own_part q1) (own_w3 q1 q2)))])) rfl (hb hby at_119) _ ?_
            show Steps p.tables e below (T52.setTop (mkF m 122 _ [(.long (-9223372036854775808 : Int64)), (.long (f1 (own_part q1) (own_w3 q1 q2)))])) _
            refine XS.lcmp X52.here hx rfl (hb hby at_122) rfl ?_
            exact kt
          by_cases hc56 : (f1 (own_part q1) (own_w3 q1 q2)) = (-9223372036854775808 : Int64)
          · skip
            obtain ⟨fs, hr, hrun, hended, hW, hsame⟩ := X52.leave (v := some (.int (1 : Int32))) (fun h => by rw [Bd.returns] at h; cases h) (by first | exact BodyLoose.notSynchronized Bd | exact Body.notSynchronized Bd)
            refine ⟨_, _, pre55 _ ?_, hrun, hended, _, _, rfl, ?_, ⟨_, rfl⟩, hW, hsame.mono (by decide) (by decide)⟩
            · show Steps p.tables e below (T52.setTop (mkF m 123 #[.val (.long q1), .second, .val (.long q2), .second, .val (.int p3), .val (.long (own_part q1)), .second, .val (.long (own_w3 q1 q2)), .second, .val (.int (p3 &&& (3 : Int32))), .val (.long (f1 (own_part q1) (own_w3 q1 q2))), .second] [(.int (lcmpW (f1 (own_part q1) (own_w3 q1 q2)) (-9223372036854775808 : Int64)))])) _
              refine XS.ifNo X52.here hx rfl (hb hby at_123) rfl ((if0 _ _).trans (teq ((lw_eq _ _).mpr hc56)).2) ?_
              show Steps p.tables e below (T52.setTop (mkF m 126 _ [])) _
              refine XS.iconst X52.here hx rfl (hb hby at_126) ?_
              show Steps p.tables e below (T52.setTop (mkF m 127 _ [(.int (1 : Int32))])) _
              refine XS.goto X52.here hx rfl (pc0 := 127) (pc' := 131) rfl (hb hby at_127) (by decide) (by decide) ?_
              show Steps p.tables e below (T52.setTop (mkF m 131 #[.val (.long q1), .second, .val (.long q2), .second, .val (.int p3), .val (.long (own_part q1)), .second, .val (.long (own_w3 q1 q2)), .second, .val (.int (p3 &&& (3 : Int32))), .val (.long (f1 (own_part q1) (own_w3 q1 q2))), .second] [(.int (1 : Int32))])) _
              exact retN X52 hx (t := .boolean) Bd.returns (by simp) (hb hby at_131) hr
            · show Q0 Z q1 q2 p3 h0 n0 _ T52.heap _
              rw [e52]
              exact ⟨congrArg (fun z => some (Value.int z)) (by rw [f0, if_neg hc5, if_neg hc21, if_neg hc37, if_pos hc54, if_pos hc56] : f0 q1 q2 p3 = (1 : Int32)).symm, N52⟩
          · skip
            obtain ⟨fs, hr, hrun, hended, hW, hsame⟩ := X52.leave (v := some (.int (0 : Int32))) (fun h => by rw [Bd.returns] at h; cases h) (by first | exact BodyLoose.notSynchronized Bd | exact Body.notSynchronized Bd)
            refine ⟨_, _, pre55 _ ?_, hrun, hended, _, _, rfl, ?_, ⟨_, rfl⟩, hW, hsame.mono (by decide) (by decide)⟩
            · show Steps p.tables e below (T52.setTop (mkF m 123 #[.val (.long q1), .second, .val (.long q2), .second, .val (.int p3), .val (.long (own_part q1)), .second, .val (.long (own_w3 q1 q2)), .second, .val (.int (p3 &&& (3 : Int32))), .val (.long (f1 (own_part q1) (own_w3 q1 q2))), .second] [(.int (lcmpW (f1 (own_part q1) (own_w3 q1 q2)) (-9223372036854775808 : Int64)))])) _
              refine XS.ifYes X52.here hx rfl (pc0 := 123) (pc' := 130) rfl (hb hby at_123) rfl ((if0 _ _).trans (feq (mt (lw_eq _ _).mp hc56)).2) (by decide) (by decide) ?_
              show Steps p.tables e below (T52.setTop (mkF m 130 _ [])) _
              refine XS.iconst X52.here hx rfl (hb hby at_130) ?_
              show Steps p.tables e below (T52.setTop (mkF m 131 #[.val (.long q1), .second, .val (.long q2), .second, .val (.int p3), .val (.long (own_part q1)), .second, .val (.long (own_w3 q1 q2)), .second, .val (.int (p3 &&& (3 : Int32))), .val (.long (f1 (own_part q1) (own_w3 q1 q2))), .second] [(.int (0 : Int32))])) _
              exact retN X52 hx (t := .boolean) Bd.returns (by simp) (hb hby at_131) hr
            · show Q0 Z q1 q2 p3 h0 n0 _ T52.heap _
              rw [e52]
              exact ⟨congrArg (fun z => some (Value.int z)) (by rw [f0, if_neg hc5, if_neg hc21, if_neg hc37, if_pos hc54, if_neg hc56] : f0 q1 q2 p3 = (0 : Int32)).symm, N52⟩
        · skip
          have pre57 : ∀ t, Steps p.tables e below (T52.setTop (mkF m 107 #[.val (.long q1), .second, .val (.long q2), .second, .val (.int p3), .val (.long (own_part q1)), .second, .val (.long (own_w3 q1 q2)), .second, .val (.int (p3 &&& (3 : Int32))), .val (.long (f1 (own_part q1) (own_w3 q1 q2))), .second] [(.int (lcmpW (own_part q1) (922337203685477 : Int64)))])) t → Steps p.tables e below (s₁.setTop (entryFrame m #[(.long q1), (.long q2), (.int p3)] maxLocals)) t := fun t kt => by
            refine pre53 _ ?_
            show Steps p.tables e below (T52.setTop (mkF m 98 #[.val (.long q1), .second, .val (.long q2), .second, .val (.int p3), .val (.long (own_part q1)), .second, .val (.long (own_w3 q1 q2)), .second, .val (.int (p3 &&& (3 : Int32))), .val (.long (f1 (own_part q1) (own_w3 q1 q2))), .second] [(.int (lcmpW (own_part q1) (0 : Int64)))])) _
            refine XS.ifNo X52.here hx rfl (hb hby at_98) rfl ((if0 _ _).trans (flt (mt (lw_lt _ _).mp hc54)).1) ?_
            show Steps p.tables e below (T52.setTop (mkF m 101 _ [])) _
            refine XS.lload X52.here hx rfl (hb hby at_101) rfl ?_
            show Steps p.tables e below (T52.setTop (mkF m 103 _ [(.long (own_part q1))])) _
            refine X52.ldc2Long hx hown (mvT hZ (hw _ (List.mem_of_getElem? (i := 6) rfl))) (g := (mkF m 103 #[.val (.long q1), .second, .val (.long q2), .second, .val (.int p3), .val (.long (own_part q1)), .second, .val (.long (own_w3 q1 q2)), .second, .val (.int (p3 &&& (3 : Int32))), .val (.long (f1 (own_part q1) (own_w3 q1 q2))), .second] [(.long (own_part q1))])) rfl (hb hby at_103) _ ?_
            show Steps p.tables e below (T52.setTop (mkF m 106 _ [(.long (922337203685477 : Int64)), (.long (own_part q1))])) _
            refine XS.lcmp X52.here hx rfl (hb hby at_106) rfl ?_
            exact kt
          by_cases hc58 : (922337203685477 : Int64) < (own_part q1)
          · skip
            have pre59 : ∀ t, Steps p.tables e below (T52.setTop (mkF m 123 #[.val (.long q1), .second, .val (.long q2), .second, .val (.int p3), .val (.long (own_part q1)), .second, .val (.long (own_w3 q1 q2)), .second, .val (.int (p3 &&& (3 : Int32))), .val (.long (f1 (own_part q1) (own_w3 q1 q2))), .second] [(.int (lcmpW (f1 (own_part q1) (own_w3 q1 q2)) (-9223372036854775808 : Int64)))])) t → Steps p.tables e below (s₁.setTop (entryFrame m #[(.long q1), (.long q2), (.int p3)] maxLocals)) t := fun t kt => by
              refine pre57 _ ?_
              show Steps p.tables e below (T52.setTop (mkF m 107 #[.val (.long q1), .second, .val (.long q2), .second, .val (.int p3), .val (.long (own_part q1)), .second, .val (.long (own_w3 q1 q2)), .second, .val (.int (p3 &&& (3 : Int32))), .val (.long (f1 (own_part q1) (own_w3 q1 q2))), .second] [(.int (lcmpW (own_part q1) (922337203685477 : Int64)))])) _
              refine XS.ifYes X52.here hx rfl (pc0 := 107) (pc' := 117) rfl (hb hby at_107) rfl ((if0 _ _).trans (tlt ((lw_gt _ _).mpr hc58)).2.2.1) (by decide) (by decide) ?_
              show Steps p.tables e below (T52.setTop (mkF m 117 _ [])) _
              refine XS.lload X52.here hx rfl (hb hby at_117) rfl ?_
              show Steps p.tables e below (T52.setTop (mkF m 119 _ [(.long (f1 (own_part q1) (own_w3 q1 q2)))])) _
              refine X52.ldc2Long hx hown (mvT hZ (hw _ (List.mem_of_getElem? (i := 15) rfl))) (g := (mkF m 119 #[.val (.long q1), .second, .val (.long q2), .second, .val (.int p3), .val (.long (own_part q1)), .second, .val (.long (own_w3 q1 q2)), .second, .val (.int (p3 &&& (3 : Int32))), .val (.long (f1 (own_part q1) (own_w3 q1 q2))), .second] [(.long (f1 (own_part q1) (own_w3 q1 q2)))])) rfl (hb hby at_119) _ ?_
              show Steps p.tables e below (T52.setTop (mkF m 122 _ [(.long (-9223372036854775808 : Int64)), (.long (f1 (own_part q1) (own_w3 q1 q2)))])) _
              refine XS.lcmp X52.here hx rfl (hb hby at_122) rfl ?_
              exact kt
            by_cases hc60 : (f1 (own_part q1) (own_w3 q1 q2)) = (-9223372036854775808 : Int64)
            · skip
              obtain ⟨fs, hr, hrun, hended, hW, hsame⟩ := X52.leave (v := some (.int (1 : Int32))) (fun h => by rw [Bd.returns] at h; cases h) (by first | exact BodyLoose.notSynchronized Bd | exact Body.notSynchronized Bd)
              refine ⟨_, _, pre59 _ ?_, hrun, hended, _, _, rfl, ?_, ⟨_, rfl⟩, hW, hsame.mono (by decide) (by decide)⟩
              · show Steps p.tables e below (T52.setTop (mkF m 123 #[.val (.long q1), .second, .val (.long q2), .second, .val (.int p3), .val (.long (own_part q1)), .second, .val (.long (own_w3 q1 q2)), .second, .val (.int (p3 &&& (3 : Int32))), .val (.long (f1 (own_part q1) (own_w3 q1 q2))), .second] [(.int (lcmpW (f1 (own_part q1) (own_w3 q1 q2)) (-9223372036854775808 : Int64)))])) _
                refine XS.ifNo X52.here hx rfl (hb hby at_123) rfl ((if0 _ _).trans (teq ((lw_eq _ _).mpr hc60)).2) ?_
                show Steps p.tables e below (T52.setTop (mkF m 126 _ [])) _
                refine XS.iconst X52.here hx rfl (hb hby at_126) ?_
                show Steps p.tables e below (T52.setTop (mkF m 127 _ [(.int (1 : Int32))])) _
                refine XS.goto X52.here hx rfl (pc0 := 127) (pc' := 131) rfl (hb hby at_127) (by decide) (by decide) ?_
                show Steps p.tables e below (T52.setTop (mkF m 131 #[.val (.long q1), .second, .val (.long q2), .second, .val (.int p3), .val (.long (own_part q1)), .second, .val (.long (own_w3 q1 q2)), .second, .val (.int (p3 &&& (3 : Int32))), .val (.long (f1 (own_part q1) (own_w3 q1 q2))), .second] [(.int (1 : Int32))])) _
                exact retN X52 hx (t := .boolean) Bd.returns (by simp) (hb hby at_131) hr
              · show Q0 Z q1 q2 p3 h0 n0 _ T52.heap _
                rw [e52]
                exact ⟨congrArg (fun z => some (Value.int z)) (by rw [f0, if_neg hc5, if_neg hc21, if_neg hc37, if_neg hc54, if_pos hc58, if_pos hc60] : f0 q1 q2 p3 = (1 : Int32)).symm, N52⟩
            · skip
              obtain ⟨fs, hr, hrun, hended, hW, hsame⟩ := X52.leave (v := some (.int (0 : Int32))) (fun h => by rw [Bd.returns] at h; cases h) (by first | exact BodyLoose.notSynchronized Bd | exact Body.notSynchronized Bd)
              refine ⟨_, _, pre59 _ ?_, hrun, hended, _, _, rfl, ?_, ⟨_, rfl⟩, hW, hsame.mono (by decide) (by decide)⟩
              · show Steps p.tables e below (T52.setTop (mkF m 123 #[.val (.long q1), .second, .val (.long q2), .second, .val (.int p3), .val (.long (own_part q1)), .second, .val (.long (own_w3 q1 q2)), .second, .val (.int (p3 &&& (3 : Int32))), .val (.long (f1 (own_part q1) (own_w3 q1 q2))), .second] [(.int (lcmpW (f1 (own_part q1) (own_w3 q1 q2)) (-9223372036854775808 : Int64)))])) _
                refine XS.ifYes X52.here hx rfl (pc0 := 123) (pc' := 130) rfl (hb hby at_123) rfl ((if0 _ _).trans (feq (mt (lw_eq _ _).mp hc60)).2) (by decide) (by decide) ?_
                show Steps p.tables e below (T52.setTop (mkF m 130 _ [])) _
                refine XS.iconst X52.here hx rfl (hb hby at_130) ?_
                show Steps p.tables e below (T52.setTop (mkF m 131 #[.val (.long q1), .second, .val (.long q2), .second, .val (.int p3), .val (.long (own_part q1)), .second, .val (.long (own_w3 q1 q2)), .second, .val (.int (p3 &&& (3 : Int32))), .val (.long (f1 (own_part q1) (own_w3 q1 q2))), .second] [(.int (0 : Int32))])) _
                exact retN X52 hx (t := .boolean) Bd.returns (by simp) (hb hby at_131) hr
              · show Q0 Z q1 q2 p3 h0 n0 _ T52.heap _
                rw [e52]
                exact ⟨congrArg (fun z => some (Value.int z)) (by rw [f0, if_neg hc5, if_neg hc21, if_neg hc37, if_neg hc54, if_pos hc58, if_neg hc60] : f0 q1 q2 p3 = (0 : Int32)).symm, N52⟩
          · skip
            have pre61 : ∀ t, Steps p.tables e below (T52.setTop (mkF m 114 #[.val (.long q1), .second, .val (.long q2), .second, .val (.int p3), .val (.long (own_part q1)), .second, .val (.long (own_w3 q1 q2)), .second, .val (.int (p3 &&& (3 : Int32))), .val (.long (f1 (own_part q1) (own_w3 q1 q2))), .second] [(.int (lcmpW (own_w3 q1 q2) (0 : Int64)))])) t → Steps p.tables e below (s₁.setTop (entryFrame m #[(.long q1), (.long q2), (.int p3)] maxLocals)) t := fun t kt => by
              refine pre57 _ ?_
              show Steps p.tables e below (T52.setTop (mkF m 107 #[.val (.long q1), .second, .val (.long q2), .second, .val (.int p3), .val (.long (own_part q1)), .second, .val (.long (own_w3 q1 q2)), .second, .val (.int (p3 &&& (3 : Int32))), .val (.long (f1 (own_part q1) (own_w3 q1 q2))), .second] [(.int (lcmpW (own_part q1) (922337203685477 : Int64)))])) _
              refine XS.ifNo X52.here hx rfl (hb hby at_107) rfl ((if0 _ _).trans (flt (mt (lw_gt _ _).mp hc58)).2.2.1) ?_
              show Steps p.tables e below (T52.setTop (mkF m 110 _ [])) _
              refine XS.lload X52.here hx rfl (hb hby at_110) rfl ?_
              show Steps p.tables e below (T52.setTop (mkF m 112 _ [(.long (own_w3 q1 q2))])) _
              refine XS.lconst X52.here hx rfl (hb hby at_112) ?_
              show Steps p.tables e below (T52.setTop (mkF m 113 _ [(.long (0 : Int64)), (.long (own_w3 q1 q2))])) _
              refine XS.lcmp X52.here hx rfl (hb hby at_113) rfl ?_
              exact kt
            by_cases hc62 : (0 : Int64) < (own_w3 q1 q2)
            · skip
              obtain ⟨_, _, ⟨T63, L63, k63, n63⟩, -, X63, ⟨Lc63, hQ63, l63, y63, z63⟩, st63⟩ := Jvm.LawKit.callS X52 hx (y := (⟨"com/example/creditree/creditree/MoneyPercentInHundredthsPinLaw", "isRounded", "(JJJ)Z"⟩ : MethodName)) hown (mvT hZ (hw _ (List.mem_of_getElem? (i := 8) rfl))) (mvT hZ (hw _ (List.mem_of_getElem? (i := 9) rfl))) (mvT hZ (hw _ (List.mem_of_getElem? (i := 10) rfl))) (mvT hZ (hw _ (List.mem_of_getElem? (i := 11) rfl))) (by decide) (backOf (W := 0) (rm2 l Z a0 hw [] ((own_part q1) * (10000 : Int64)) (own_w3 q1 q2) (f1 (own_part q1) (own_w3 q1 q2)) h0 n0 Z0 (own_nz_J hc62)) hZ (hw _ (List.mem_of_getElem? (i := 11) rfl)) (hw _ (List.mem_of_getElem? (i := 10) rfl)) (by decide) (by decide)) (g := (mkF m 142 #[.val (.long q1), .second, .val (.long q2), .second, .val (.int p3), .val (.long (own_part q1)), .second, .val (.long (own_w3 q1 q2)), .second, .val (.int (p3 &&& (3 : Int32))), .val (.long (f1 (own_part q1) (own_w3 q1 q2))), .second] [(.long (f1 (own_part q1) (own_w3 q1 q2))), (.long (own_w3 q1 q2)), (.long ((own_part q1) * (10000 : Int64)))])) rfl (by rw [hml]; rfl) (argsL := [(.long ((own_part q1) * (10000 : Int64))), (.long (own_w3 q1 q2)), (.long (f1 (own_part q1) (own_w3 q1 q2)))]) (rest := []) (lenOf pd_0_1 rfl) rfl (by show 2 * 0 + _ ≤ _; exact Nat.le_of_eq rfl) (hb hby at_142) (fun _ _ => ⟨rfl, e52, (by decide : 0 + 0 ≤ _), (by decide : 0 + 0 ≤ _)⟩)
              dsimp only [Pt.U, Pt.locs, Pt.cells, Pt.slots] at X63 l63 y63 z63 st63 hQ63
              subst l63 y63 z63
              obtain ⟨rfl, N63q, e63⟩ := hQ63
              have N63 := Fr.app N52 N63q
              obtain ⟨fs, hr, hrun, hended, hW, hsame⟩ := X63.leave (v := some (.int (nar .boolean (f2 ((own_part q1) * (10000 : Int64)) (own_w3 q1 q2) (f1 (own_part q1) (own_w3 q1 q2)))))) (fun h => by rw [Bd.returns] at h; cases h) (by first | exact BodyLoose.notSynchronized Bd | exact Body.notSynchronized Bd)
              refine ⟨_, _, pre61 _ ?_, hrun, hended, _, _, rfl, ?_, ⟨_, rfl⟩, hW, hsame.mono (by decide) (by decide)⟩
              · show Steps p.tables e below (T52.setTop (mkF m 114 #[.val (.long q1), .second, .val (.long q2), .second, .val (.int p3), .val (.long (own_part q1)), .second, .val (.long (own_w3 q1 q2)), .second, .val (.int (p3 &&& (3 : Int32))), .val (.long (f1 (own_part q1) (own_w3 q1 q2))), .second] [(.int (lcmpW (own_w3 q1 q2) (0 : Int64)))])) _
                refine XS.ifYes X52.here hx rfl (pc0 := 114) (pc' := 132) rfl (hb hby at_114) rfl ((if0 _ _).trans (tlt ((lw_gt _ _).mpr hc62)).2.2.1) (by decide) (by decide) ?_
                show Steps p.tables e below (T52.setTop (mkF m 132 _ [])) _
                refine XS.lload X52.here hx rfl (hb hby at_132) rfl ?_
                show Steps p.tables e below (T52.setTop (mkF m 134 _ [(.long (own_part q1))])) _
                refine X52.ldc2Long hx hown (mvT hZ (hw _ (List.mem_of_getElem? (i := 7) rfl))) (g := (mkF m 134 #[.val (.long q1), .second, .val (.long q2), .second, .val (.int p3), .val (.long (own_part q1)), .second, .val (.long (own_w3 q1 q2)), .second, .val (.int (p3 &&& (3 : Int32))), .val (.long (f1 (own_part q1) (own_w3 q1 q2))), .second] [(.long (own_part q1))])) rfl (hb hby at_134) _ ?_
                show Steps p.tables e below (T52.setTop (mkF m 137 _ [(.long (10000 : Int64)), (.long (own_part q1))])) _
                refine XS.lmul X52.here hx rfl (hb hby at_137) rfl ?_
                show Steps p.tables e below (T52.setTop (mkF m 138 _ [(.long ((own_part q1) * (10000 : Int64)))])) _
                refine XS.lload X52.here hx rfl (hb hby at_138) rfl ?_
                show Steps p.tables e below (T52.setTop (mkF m 140 _ [(.long (own_w3 q1 q2)), (.long ((own_part q1) * (10000 : Int64)))])) _
                refine XS.lload X52.here hx rfl (hb hby at_140) rfl ?_
                show Steps p.tables e below (T52.setTop (mkF m 142 _ [(.long (f1 (own_part q1) (own_w3 q1 q2))), (.long (own_w3 q1 q2)), (.long ((own_part q1) * (10000 : Int64)))])) _
                refine st63 _ ?_
                show Steps p.tables e below (T63.setTop (mkF m 145 #[.val (.long q1), .second, .val (.long q2), .second, .val (.int p3), .val (.long (own_part q1)), .second, .val (.long (own_w3 q1 q2)), .second, .val (.int (p3 &&& (3 : Int32))), .val (.long (f1 (own_part q1) (own_w3 q1 q2))), .second] [(.int (f2 ((own_part q1) * (10000 : Int64)) (own_w3 q1 q2) (f1 (own_part q1) (own_w3 q1 q2))))])) _
                exact retN X63 hx (t := .boolean) Bd.returns (by simp) (hb hby at_145) hr
              · show Q0 Z q1 q2 p3 h0 n0 _ T63.heap _
                rw [e63]
                exact ⟨congrArg (fun z => some (Value.int z)) (by rw [f0, if_neg hc5, if_neg hc21, if_neg hc37, if_neg hc54, if_neg hc58, if_pos hc62] : f0 q1 q2 p3 = (nar .boolean (f2 ((own_part q1) * (10000 : Int64)) (own_w3 q1 q2) (f1 (own_part q1) (own_w3 q1 q2))))).symm, N63⟩
            · skip
              have pre64 : ∀ t, Steps p.tables e below (T52.setTop (mkF m 123 #[.val (.long q1), .second, .val (.long q2), .second, .val (.int p3), .val (.long (own_part q1)), .second, .val (.long (own_w3 q1 q2)), .second, .val (.int (p3 &&& (3 : Int32))), .val (.long (f1 (own_part q1) (own_w3 q1 q2))), .second] [(.int (lcmpW (f1 (own_part q1) (own_w3 q1 q2)) (-9223372036854775808 : Int64)))])) t → Steps p.tables e below (s₁.setTop (entryFrame m #[(.long q1), (.long q2), (.int p3)] maxLocals)) t := fun t kt => by
                refine pre61 _ ?_
                show Steps p.tables e below (T52.setTop (mkF m 114 #[.val (.long q1), .second, .val (.long q2), .second, .val (.int p3), .val (.long (own_part q1)), .second, .val (.long (own_w3 q1 q2)), .second, .val (.int (p3 &&& (3 : Int32))), .val (.long (f1 (own_part q1) (own_w3 q1 q2))), .second] [(.int (lcmpW (own_w3 q1 q2) (0 : Int64)))])) _
                refine XS.ifNo X52.here hx rfl (hb hby at_114) rfl ((if0 _ _).trans (flt (mt (lw_gt _ _).mp hc62)).2.2.1) ?_
                show Steps p.tables e below (T52.setTop (mkF m 117 _ [])) _
                refine XS.lload X52.here hx rfl (hb hby at_117) rfl ?_
                show Steps p.tables e below (T52.setTop (mkF m 119 _ [(.long (f1 (own_part q1) (own_w3 q1 q2)))])) _
                refine X52.ldc2Long hx hown (mvT hZ (hw _ (List.mem_of_getElem? (i := 15) rfl))) (g := (mkF m 119 #[.val (.long q1), .second, .val (.long q2), .second, .val (.int p3), .val (.long (own_part q1)), .second, .val (.long (own_w3 q1 q2)), .second, .val (.int (p3 &&& (3 : Int32))), .val (.long (f1 (own_part q1) (own_w3 q1 q2))), .second] [(.long (f1 (own_part q1) (own_w3 q1 q2)))])) rfl (hb hby at_119) _ ?_
                show Steps p.tables e below (T52.setTop (mkF m 122 _ [(.long (-9223372036854775808 : Int64)), (.long (f1 (own_part q1) (own_w3 q1 q2)))])) _
                refine XS.lcmp X52.here hx rfl (hb hby at_122) rfl ?_
                exact kt
              by_cases hc65 : (f1 (own_part q1) (own_w3 q1 q2)) = (-9223372036854775808 : Int64)
              · skip
                obtain ⟨fs, hr, hrun, hended, hW, hsame⟩ := X52.leave (v := some (.int (1 : Int32))) (fun h => by rw [Bd.returns] at h; cases h) (by first | exact BodyLoose.notSynchronized Bd | exact Body.notSynchronized Bd)
                refine ⟨_, _, pre64 _ ?_, hrun, hended, _, _, rfl, ?_, ⟨_, rfl⟩, hW, hsame.mono (by decide) (by decide)⟩
                · show Steps p.tables e below (T52.setTop (mkF m 123 #[.val (.long q1), .second, .val (.long q2), .second, .val (.int p3), .val (.long (own_part q1)), .second, .val (.long (own_w3 q1 q2)), .second, .val (.int (p3 &&& (3 : Int32))), .val (.long (f1 (own_part q1) (own_w3 q1 q2))), .second] [(.int (lcmpW (f1 (own_part q1) (own_w3 q1 q2)) (-9223372036854775808 : Int64)))])) _
                  refine XS.ifNo X52.here hx rfl (hb hby at_123) rfl ((if0 _ _).trans (teq ((lw_eq _ _).mpr hc65)).2) ?_
                  show Steps p.tables e below (T52.setTop (mkF m 126 _ [])) _
                  refine XS.iconst X52.here hx rfl (hb hby at_126) ?_
                  show Steps p.tables e below (T52.setTop (mkF m 127 _ [(.int (1 : Int32))])) _
                  refine XS.goto X52.here hx rfl (pc0 := 127) (pc' := 131) rfl (hb hby at_127) (by decide) (by decide) ?_
                  show Steps p.tables e below (T52.setTop (mkF m 131 #[.val (.long q1), .second, .val (.long q2), .second, .val (.int p3), .val (.long (own_part q1)), .second, .val (.long (own_w3 q1 q2)), .second, .val (.int (p3 &&& (3 : Int32))), .val (.long (f1 (own_part q1) (own_w3 q1 q2))), .second] [(.int (1 : Int32))])) _
                  exact retN X52 hx (t := .boolean) Bd.returns (by simp) (hb hby at_131) hr
                · show Q0 Z q1 q2 p3 h0 n0 _ T52.heap _
                  rw [e52]
                  exact ⟨congrArg (fun z => some (Value.int z)) (by rw [f0, if_neg hc5, if_neg hc21, if_neg hc37, if_neg hc54, if_neg hc58, if_neg hc62, if_pos hc65] : f0 q1 q2 p3 = (1 : Int32)).symm, N52⟩
              · skip
                obtain ⟨fs, hr, hrun, hended, hW, hsame⟩ := X52.leave (v := some (.int (0 : Int32))) (fun h => by rw [Bd.returns] at h; cases h) (by first | exact BodyLoose.notSynchronized Bd | exact Body.notSynchronized Bd)
                refine ⟨_, _, pre64 _ ?_, hrun, hended, _, _, rfl, ?_, ⟨_, rfl⟩, hW, hsame.mono (by decide) (by decide)⟩
                · show Steps p.tables e below (T52.setTop (mkF m 123 #[.val (.long q1), .second, .val (.long q2), .second, .val (.int p3), .val (.long (own_part q1)), .second, .val (.long (own_w3 q1 q2)), .second, .val (.int (p3 &&& (3 : Int32))), .val (.long (f1 (own_part q1) (own_w3 q1 q2))), .second] [(.int (lcmpW (f1 (own_part q1) (own_w3 q1 q2)) (-9223372036854775808 : Int64)))])) _
                  refine XS.ifYes X52.here hx rfl (pc0 := 123) (pc' := 130) rfl (hb hby at_123) rfl ((if0 _ _).trans (feq (mt (lw_eq _ _).mp hc65)).2) (by decide) (by decide) ?_
                  show Steps p.tables e below (T52.setTop (mkF m 130 _ [])) _
                  refine XS.iconst X52.here hx rfl (hb hby at_130) ?_
                  show Steps p.tables e below (T52.setTop (mkF m 131 #[.val (.long q1), .second, .val (.long q2), .second, .val (.int p3), .val (.long (own_part q1)), .second, .val (.long (own_w3 q1 q2)), .second, .val (.int (p3 &&& (3 : Int32))), .val (.long (f1 (own_part q1) (own_w3 q1 q2))), .second] [(.int (0 : Int32))])) _
                  exact retN X52 hx (t := .boolean) Bd.returns (by simp) (hb hby at_131) hr
                · show Q0 Z q1 q2 p3 h0 n0 _ T52.heap _
                  rw [e52]
                  exact ⟨congrArg (fun z => some (Value.int z)) (by rw [f0, if_neg hc5, if_neg hc21, if_neg hc37, if_neg hc54, if_neg hc58, if_neg hc62, if_neg hc65] : f0 q1 q2 p3 = (0 : Int32)).symm, N52⟩
theorem own_round (a b : Int64) (h0 : 0 ≤ a.toInt) (h1 : a.toInt ≤ 922337203685477) (hb : 0 < b.toInt) : f2 (a * (10000 : Int64)) b (f1 a b) = 1 := by
  have k0 : (0 : Int64).toInt = 0 := by decide
  have k1 : (1 : Int64).toInt = 1 := by decide
  have k2 : (10000 : Int64).toInt = 10000 := by decide
  have k3 : (922337203685477 : Int64).toInt = 922337203685477 := by decide
  have kb := rng64 b
  have hs : (a * (10000 : Int64)).toInt = a.toInt * 10000 := by
    have := Jvm.Kit.i64_mul (x := a) (y := 10000) (by rw [k2]; omega) (by rw [k2]; omega)
    rw [this, k2]
  have n1 : ¬ a < (0 : Int64) := by rw [Int64.lt_iff_toInt_lt]; omega
  have n2 : ¬ (922337203685477 : Int64) < a := by rw [Int64.lt_iff_toInt_lt]; omega
  have n3 : (0 : Int64) < b := by rw [Int64.lt_iff_toInt_lt]; omega
  have bm1 : b ≠ -1 := fun q => by rw [q] at hb; revert hb; decide
  unfold f1
  rw [if_neg n1, if_neg n2, if_pos n3]
  generalize hsd : a * (10000 : Int64) = s at *
  have hs0 : 0 ≤ s.toInt := by omega
  have hs1 : s.toInt ≤ 9223372036854770000 := by omega
  have hq : (s / b).toInt = s.toInt / b.toInt := (c_ldiv s b b.toInt rfl bm1).1 hs0
  have hr : (s - (s / b) * b).toInt = s.toInt % b.toInt := (c_lrem s b b.toInt rfl).1 hs0
  have e1 : s.toInt / b.toInt * b.toInt + s.toInt % b.toInt = s.toInt := Int.ediv_mul_add_emod _ _
  have e2 := Int.emod_nonneg s.toInt (show b.toInt ≠ 0 by omega)
  have e3 := Int.emod_lt_of_pos s.toInt hb
  have e4 : 0 ≤ s.toInt / b.toInt := Int.ediv_nonneg hs0 (by omega)
  have e5 : s.toInt / b.toInt ≤ s.toInt := Int.ediv_le_self _ hs0
  generalize hrd : s - (s / b) * b = r at *
  generalize hqd : s / b = q at *
  rw [← hq] at e1 e4 e5
  rw [← hr] at e1 e2 e3
  have hw : (b - r).toInt = b.toInt - r.toInt := Jvm.Kit.i64_sub (by omega) (by omega)
  -- the rounded quotient
  have main : ∀ (z : Int64) (up : Int), z.toInt = q.toInt + up → (up = 0 ∧ r.toInt < b.toInt - r.toInt ∨ up = 1 ∧ ¬ r.toInt < b.toInt - r.toInt) → f2 s b z = 1 := by
    intro z up hz hup
    have z0 : ¬ z < (0 : Int64) := by rw [Int64.lt_iff_toInt_lt]; omega
    unfold f2
    rw [if_neg z0]
    by_cases hz0 : z = (0 : Int64)
    · rw [if_pos hz0]
      have hz0' : z.toInt = 0 := by rw [hz0]; exact k0
      have hq0 : q.toInt = 0 := by omega
      have hbs : (b - s).toInt = b.toInt - s.toInt := Jvm.Kit.i64_sub (by omega) (by omega)
      rw [hq0] at e1
      have : s < b - s := by rw [Int64.lt_iff_toInt_lt, hbs]; omega
      rw [if_pos this]
    · rw [if_neg hz0]
      have hz1 : ¬ z.toInt = 0 := fun h => hz0 (Int64.toInt_inj.mp (by rw [h, k0]))
      have hm : (z - (1 : Int64)).toInt = z.toInt - 1 := by
        have := Jvm.Kit.i64_sub (x := z) (y := 1) (by rw [k1]; omega) (by rw [k1]; have := rng64 z; omega)
        rw [this, k1]
      have hmw : (z - (1 : Int64)).toInt * b.toInt = q.toInt * b.toInt + (up - 1) * b.toInt := by
        rw [hm, hz, ← Int.add_mul]
        congr 1
        omega
      have hcase : (up - 1) * b.toInt = if up = 0 then - b.toInt else 0 := by
        rcases hup with ⟨rfl, -⟩ | ⟨rfl, -⟩
        · simp
        · simp
      rw [hcase] at hmw
      have hle : 0 ≤ (z - (1 : Int64)).toInt * b.toInt := Int.mul_nonneg (by omega) (by omega)
      have hle2 : (z - (1 : Int64)).toInt * b.toInt ≤ s.toInt := by rw [hmw]; split <;> omega
      have hbase : ((z - (1 : Int64)) * b).toInt = (z - (1 : Int64)).toInt * b.toInt := Jvm.Kit.i64_mul (by omega) (by omega)
      have hdiv : ((z - (1 : Int64)) * b) / b = z - (1 : Int64) := by
        apply Int64.toInt_inj.mp
        rw [(c_ldiv ((z - 1) * b) b b.toInt rfl bm1).1 (by omega), hbase, Int.mul_ediv_cancel _ (by omega)]
      rw [if_pos hdiv]
      generalize (z - (1 : Int64)) * b = base at *
      have nb : ¬ s < base := by rw [Int64.lt_iff_toInt_lt]; omega
      rw [if_neg nb]
      have g1 : (s - base).toInt = s.toInt - base.toInt := Jvm.Kit.i64_sub (by omega) (by omega)
      have g2 : ((s - base) - b).toInt = s.toInt - base.toInt - b.toInt := by
        rw [← g1]; exact Jvm.Kit.i64_sub (by omega) (by omega)
      generalize (s - base) - b = d at *
      rcases hup with ⟨rfl, hlt⟩ | ⟨rfl, hge⟩
      · rw [if_pos rfl] at hmw
        have hd : d.toInt = r.toInt := by omega
        have nd : ¬ d < (0 : Int64) := by rw [Int64.lt_iff_toInt_lt]; omega
        have hbd : (b - d).toInt = b.toInt - d.toInt := Jvm.Kit.i64_sub (by omega) (by omega)
        have : d < b - d := by rw [Int64.lt_iff_toInt_lt, hbd]; omega
        rw [if_neg nd, if_pos this]
      · rw [if_neg (by decide)] at hmw
        have hd : d.toInt = r.toInt - b.toInt := by omega
        have nd : d < (0 : Int64) := by rw [Int64.lt_iff_toInt_lt]; omega
        have hbd : (b + d).toInt = b.toInt + d.toInt := Jvm.Kit.i64_add (by omega) (by omega)
        have hnd : (-d).toInt = - d.toInt := Jvm.Kit.i64_neg (by omega)
        have : ¬ b + d < -d := by rw [Int64.lt_iff_toInt_lt, hbd, hnd]; omega
        rw [if_pos nd, if_neg this]
  split
  · rename_i h
    rw [Int64.lt_iff_toInt_lt, hw] at h
    refine main _ 0 ?_ (Or.inl ⟨rfl, h⟩)
    have := Jvm.Kit.i64_add (x := q) (y := (0 : Int32).toInt64) (by rw [show ((0 : Int32).toInt64).toInt = 0 by decide]; omega) (by rw [show ((0 : Int32).toInt64).toInt = 0 by decide]; omega)
    rw [this, show ((0 : Int32).toInt64).toInt = 0 by decide]
  · rename_i h
    rw [Int64.lt_iff_toInt_lt, hw] at h
    refine main _ 1 ?_ (Or.inr ⟨rfl, h⟩)
    have := Jvm.Kit.i64_add (x := q) (y := (1 : Int32).toInt64) (by rw [show ((1 : Int32).toInt64).toInt = 1 by decide]; omega) (by rw [show ((1 : Int32).toInt64).toInt = 1 by decide]; omega)
    rw [this, show ((1 : Int32).toInt64).toInt = 1 by decide]
theorem own_g (a b : Int64) : (if a < (0 : Int64) then (if (f1 a b) = (-9223372036854775808 : Int64) then (1 : Int32) else (0 : Int32)) else (if (922337203685477 : Int64) < a then (if (f1 a b) = (-9223372036854775808 : Int64) then (1 : Int32) else (0 : Int32)) else (if (0 : Int64) < b then (nar .boolean (f2 (a * (10000 : Int64)) b (f1 a b))) else (if (f1 a b) = (-9223372036854775808 : Int64) then (1 : Int32) else (0 : Int32))))) = 1 := by
  by_cases h1 : a < (0 : Int64)
  · rw [if_pos h1, if_pos (by unfold f1; rw [if_pos h1])]
  · by_cases h2 : (922337203685477 : Int64) < a
    · rw [if_neg h1, if_pos h2, if_pos (by unfold f1; rw [if_neg h1, if_pos h2])]
    · by_cases h3 : (0 : Int64) < b
      · rw [if_neg h1, if_neg h2, if_pos h3, own_round a b]
        · rfl
        · rw [Int64.lt_iff_toInt_lt] at h1
          exact Int.not_lt.mp h1
        · rw [Int64.lt_iff_toInt_lt] at h2
          exact Int.not_lt.mp h2
        · rw [Int64.lt_iff_toInt_lt] at h3
          exact h3
      · rw [if_neg h1, if_neg h2, if_neg h3, if_pos (by unfold f1; rw [if_neg h1, if_neg h2, if_neg h3])]
theorem own_plain (a b : Int64) (k : Int32) : f0 a b k = 1 := by
  unfold f0
  rw [own_g a b, own_g (own_part a) (b &&& (9223372036854775807 : Int64)), own_g (own_part a) (own_w2 b), own_g (own_part a) (own_w3 a b)]
  (repeat' split) <;> rfl
set_option maxRecDepth 65536 in
set_option maxHeartbeats 40000000 in
theorem comes_1 {Post : Tables → Env → Array Value → State → Outcome → State → Prop} (hpost : ∀ tb e args s v u, (limb_1_1.after args s (.returned v) u = true ∧ limb_1_2.after args s (.returned v) u = true ∧ True) → FrameEnd s (.returned v) u (Jvm.fieldLocs frame_1_writes args s ++ Jvm.arrayLocs frame_1_arrays args s ++ Jvm.staticLocs frame_1_statics s) 0 0 → Post tb e args s (.returned v) u) :
    ArmFor flags0 classFile x code maxLocals ret World_1 tables_1 room_1 Calls_1 rest_1 Pre_1 Post := by
  intro l hfl _ _ p e ha hc hk s m args below hf hA hF happ hP
  obtain ⟨hcalls, hrest, hpre⟩ := hP
  obtain ⟨-, -, -, hnamed, -, -, -, hat⟩ := (Spec.applies_iff hf).mp happ
  obtain ⟨hg, hn⟩ := and_e (Cond.before_iff.mp (show (Jvm.Cond.and given_1 narrow_1).before args s = true from hpre))
  obtain ⟨gc, hg⟩ := and_e hg
  obtain ⟨gi0, hg⟩ := and_e hg
  obtain ⟨gi1, hg⟩ := and_e hg
  obtain ⟨w0, w1, w2, rfl⟩ : ∃ w0 w1 w2 : Value, args = #[w0, w1, w2] := by
    have hs : args.size = 3 := by simpa [Cond.value, given_1] using gc
    obtain ⟨L⟩ := args
    match L, hs with
    | [w0, w1, w2], _ => exact ⟨w0, w1, w2, rfl⟩
  have hw := fun d (hd : d ∈ tables_1) => atoms_spec (ws := Jvm.Cond.code x code maxLocals ret :: tables_1) hat d (List.mem_cons_of_mem _ hd)
  obtain ⟨i0, ei0⟩ := isL_v gi0
  obtain rfl : w0 = (.long i0) := Option.some.inj ei0
  obtain ⟨i1, ei1⟩ := isL_v gi1
  obtain rfl : w1 = (.long i1) := Option.some.inj ei1
  obtain ⟨i2, ei2⟩ := is_v hg
  obtain rfl : w2 = (.int i2) := Option.some.inj ei2
  obtain ⟨n, o, h1, h2, h3, vr, L, rfl, ⟨hvr, N⟩, hq⟩ := rm0 l s _ hw tables_1 i0 i1 i2 s.heap s.heap.size (Nat.le_refl _)  p e ha hc hk s m _ below hf ((Spec.applies_iff_loose hf).mp happ).1 ⟨rfl, State.Warmed39.refl s, rfl⟩ trivial
  have hpl : f0 i0 i1 i2 = 1 := own_plain i0 i1 i2 
  rw [hpl] at hvr
  subst hvr
  refine ⟨n, _, h1, h2, h3, hpost _ _ _ _ _ _ ⟨Cond.after_iff.mpr rfl, Cond.after_iff.mpr (eq_i res_at (Term.int_eval (1)) rfl), trivial⟩ ⟨hq.1, hq.2.1, (hq.2.2.sift fun y hy => Or.inr (N y hy)).mono (by decide) (by decide)⟩⟩
theorem main_1_1 : Claimed_1_1 := comes_1 fun _ _ _ _ _ _ h hF => ⟨h.1, hF⟩
theorem main_1_2 : Claimed_1_2 := comes_1 fun _ _ _ _ _ _ h hF => ⟨h.2.1, hF⟩

end Jvm.Pilot.@@N@@
namespace Jvm.Pilot.@@N@@
open Jvm Jvm.ClassFile Sem Op Lib Jvm.Free Jvm.Stand Jvm.Pilot.@@N@@.Jvm.D
/-! MADE BY PROGRAM (witnessworld.py) out of the Statement's table words and the real class files: 9 classes; the members and pool entries that the words name. The judged class is class 1, her method 1. -/
namespace start1
open Jvm.ClassFile
def u (s : String) : CpInfo := .utf8 (stringToUtf16 s)
/-- a pool by its gaps: so many unusable entries, then the entry; so many at the end -/
def gap : Nat → List CpInfo → List CpInfo
  | 0, r => r
  | n + 1, r => .unusable :: gap n r
def poolList (es : List (Nat × CpInfo)) (last : Nat) : List CpInfo := es.foldr (fun e r => gap e.1 (e.2 :: r)) (gap last [])
def pool (es : List (Nat × CpInfo)) (last : Nat) : Array CpInfo := ⟨poolList es last⟩
def fileOf (pool : Array CpInfo) (this : Nat) (attrs : Array Attribute := #[]) (ms : Array MethodInfo := #[]) (fl : Nat := 33) (sup : Nat := 0) (ifs : Array Nat := #[]) (fds : Array FieldInfo := #[]) : ClassFile where
  minorVersion := 0
  majorVersion := 65
  constantPool := pool
  accessFlags := fl
  thisClass := this
  superClass := sup
  interfaces := ifs
  fields := fds
  methods := ms
  attributes := attrs
def plain (name : String) (sup : Option ClassId) : Class where
  name := name
  kind := .ordinary
  loader := none
  accessFlags := 33
  super := sup
  interfaces := #[]
  cf := none
  fields := #[]
  methods := #[]
  instanceTypes := #[]
  staticTypes := #[]
  resolved := #[]
  callSites := []
  init := .initialized
  statics := none
  mirror := none

def pool0 : Array CpInfo := pool [(5, u "<init>"), (0, u "()V"), (1, .class_ 10), (1, u "java/lang/Object")] 113

def k0m0 : Method := { name := "<init>", desc := "()V", sig := { parameters := [], returnType := none }, accessFlags := 1, code := none }
/-- java/lang/Object -/
def k0 : Class := { plain "java/lang/Object" none with
  accessFlags := 33
  interfaces := #[]
  cf := some (fileOf pool0 8 #[] #[{ accessFlags := 1, nameIndex := 5, descriptorIndex := 6, attributes := #[] }] 33 0 #[] #[])
  fields := #[]
  methods := #[k0m0]
  instanceTypes := #[]
  staticTypes := #[]
  resolved := Array.replicate 124 none
  statics := none }

def pool1 : Array CpInfo := pool [(2, .class_ 4), (1, u "java/lang/Object"), (0, u "<init>"), (0, u "()V"), (2, .long 9223372036854775807), (1, .long 922337203685478), (1, .long 40001), (1, .long 10000), (1, .methodref 18 19), (0, .class_ 20), (0, .nameAndType 21 22), (0, u "com/example/creditree/creditree/Money"), (0, u "percentInHundredths"), (0, u "(JJ)J"), (0, .long 922337203685477), (1, .long 9223372036854775808), (1, .methodref 28 29), (0, .class_ 30), (0, .nameAndType 31 32), (0, u "com/example/creditree/creditree/MoneyPercentInHundredthsPinLaw"), (0, u "isRounded"), (0, u "(JJJ)Z"), (2, u "law"), (0, u "(JJI)Z")] 3

def k1m0 : Method := { name := "<init>", desc := "()V", sig := { parameters := [], returnType := none }, accessFlags := 1, code := none }
def k1c1 : Code := { maxStack := 6, maxLocals := 12, code := code, exceptionTable := #[], attributes := #[] }
def k1m1 : Method := { name := "law", desc := "(JJI)Z", sig := { parameters := [.long, .long, .int], returnType := some .boolean }, accessFlags := 9, code := some k1c1 }
def k1c2 : Code := { maxStack := 6, maxLocals := 12, code := method_3_code, exceptionTable := #[], attributes := #[] }
def k1m2 : Method := { name := "isRounded", desc := "(JJJ)Z", sig := { parameters := [.long, .long, .long], returnType := some .boolean }, accessFlags := 10, code := some k1c2 }
/-- com/example/creditree/creditree/MoneyPercentInHundredthsPinLaw -/
def k1 : Class := { plain "com/example/creditree/creditree/MoneyPercentInHundredthsPinLaw" (some 0) with
  accessFlags := 49
  interfaces := #[]
  cf := some (fileOf pool1 28 #[] #[{ accessFlags := 1, nameIndex := 5, descriptorIndex := 6, attributes := #[] }, { accessFlags := 9, nameIndex := 35, descriptorIndex := 36, attributes := #[] }, { accessFlags := 10, nameIndex := 31, descriptorIndex := 32, attributes := #[] }] 49 2 #[] #[])
  fields := #[]
  methods := #[k1m0, k1m1, k1m2]
  instanceTypes := #[]
  staticTypes := #[]
  resolved := Array.replicate 40 none
  statics := none }

def pool2 : Array CpInfo := pool [(4, .class_ 6), (1, u "java/lang/Object"), (0, u "<init>"), (0, u "()V"), (1, .class_ 12), (1, u "com/example/creditree/creditree/Money"), (46, .long 9223372036854775808), (7, u "ROUNDING"), (0, u "Ljava/math/RoundingMode;"), (6, u "HALF"), (0, u "Ljava/math/BigDecimal;"), (17, u "percentInHundredths"), (0, u "(JJ)J"), (3, .long 922337203685477), (1, .long 10000), (63, u "ZERO"), (4, u "MAX_AMOUNT"), (2, u "POWERS_OF_TEN"), (0, u "[J"), (9, u "TOO_LARGE"), (0, u "J"), (1, u "CENT_SCALE"), (0, u "I"), (1, u "HUNDREDTHS_PER_WHOLE")] 41

def k2m0 : Method := { name := "<init>", desc := "()V", sig := { parameters := [], returnType := none }, accessFlags := 2, code := none }
def k2c1 : Code := { maxStack := 8, maxLocals := 8, code := prog_76_method_12_code, exceptionTable := #[], attributes := #[] }
def k2m1 : Method := { name := "percentInHundredths", desc := "(JJ)J", sig := { parameters := [.long, .long], returnType := some .long }, accessFlags := 8, code := some k2c1 }
/-- com/example/creditree/creditree/Money -/
def k2 : Class := { plain "com/example/creditree/creditree/Money" (some 0) with
  accessFlags := 48
  interfaces := #[]
  cf := some (fileOf pool2 10 #[] #[{ accessFlags := 2, nameIndex := 7, descriptorIndex := 8, attributes := #[] }, { accessFlags := 8, nameIndex := 94, descriptorIndex := 95, attributes := #[] }] 48 4 #[] #[{ accessFlags := 24, nameIndex := 165, descriptorIndex := 76, attributes := #[] }, { accessFlags := 24, nameIndex := 170, descriptorIndex := 76, attributes := #[] }, { accessFlags := 24, nameIndex := 184, descriptorIndex := 185, attributes := #[] }, { accessFlags := 26, nameIndex := 187, descriptorIndex := 188, attributes := #[] }, { accessFlags := 26, nameIndex := 190, descriptorIndex := 185, attributes := #[] }, { accessFlags := 24, nameIndex := 173, descriptorIndex := 174, attributes := #[] }, { accessFlags := 26, nameIndex := 67, descriptorIndex := 68, attributes := #[] }, { accessFlags := 26, nameIndex := 75, descriptorIndex := 76, attributes := #[] }])
  fields := #[{ name := "ZERO", type := (.object "java/math/BigDecimal"), accessFlags := 24, slot := 0, constantValue := 0 }, { name := "MAX_AMOUNT", type := (.object "java/math/BigDecimal"), accessFlags := 24, slot := 1, constantValue := 0 }, { name := "TOO_LARGE", type := .long, accessFlags := 24, slot := 2, constantValue := 0 }, { name := "CENT_SCALE", type := .int, accessFlags := 26, slot := 3, constantValue := 0 }, { name := "HUNDREDTHS_PER_WHOLE", type := .long, accessFlags := 26, slot := 4, constantValue := 0 }, { name := "POWERS_OF_TEN", type := (.array .long), accessFlags := 24, slot := 5, constantValue := 0 }, { name := "ROUNDING", type := (.object "java/math/RoundingMode"), accessFlags := 26, slot := 6, constantValue := 0 }, { name := "HALF", type := (.object "java/math/BigDecimal"), accessFlags := 26, slot := 7, constantValue := 0 }]
  methods := #[k2m0, k2m1]
  instanceTypes := #[]
  staticTypes := #[(.object "java/math/BigDecimal"), (.object "java/math/BigDecimal"), .long, .int, .long, (.array .long), (.object "java/math/RoundingMode"), (.object "java/math/BigDecimal")]
  resolved := Array.replicate 232 none
  statics := none }

def pool3 : Array CpInfo := pool [(1, u "java/lang/Cloneable"), (0, .class_ 1), (0, u "java/lang/Object"), (0, .class_ 3)] 3

/-- java/lang/Cloneable -/
def k3 : Class := { plain "java/lang/Cloneable" (some 0) with
  accessFlags := 1537
  interfaces := #[]
  cf := some (fileOf pool3 2 #[] #[] 1537 4 #[] #[])
  fields := #[]
  methods := #[]
  instanceTypes := #[]
  staticTypes := #[]
  resolved := Array.replicate 8 none
  statics := none }

def pool4 : Array CpInfo := pool [(1, u "java/io/Serializable"), (0, .class_ 1), (0, u "java/lang/Object"), (0, .class_ 3)] 3

/-- java/io/Serializable -/
def k4 : Class := { plain "java/io/Serializable" (some 0) with
  accessFlags := 1537
  interfaces := #[]
  cf := some (fileOf pool4 2 #[] #[] 1537 4 #[] #[])
  fields := #[]
  methods := #[]
  instanceTypes := #[]
  staticTypes := #[]
  resolved := Array.replicate 8 none
  statics := none }

/-- the primitive byte -/
def k5 : Class := { plain "byte" none with kind := .primitive 'B', accessFlags := 0x411 }
/-- [B -/
def k6 : Class := { plain "[B" (some 0) with kind := .array 5 .byte, interfaces := #[3, 4], accessFlags := 1041 }

/-- the primitive int -/
def k7 : Class := { plain "int" none with kind := .primitive 'I', accessFlags := 0x411 }
/-- [I -/
def k8 : Class := { plain "[I" (some 0) with kind := .array 7 .int, interfaces := #[3, 4], accessFlags := 1041 }

def heap : Heap := #[]
def classes : Array Class := #[k0, k1, k2, k3, k4, k5, k6, k7, k8]
def interned : List (Array UInt16 × Addr) := []
def slotsUsed : Nat := 0
def theMethod : MethodId := ⟨1, 1⟩
def args0 : Array Value := #[.long 5, .long 7, .int 1]
def aboutOver (below : List Frame) : State where
  vm := { classes := classes, interned := interned.toArray }
  heap := heap
  slotsUsed := slotsUsed
  threads := #[{ frames := .invoking theMethod args0 :: below }]
def below0 : List Frame := [.native { method := ⟨0, 0⟩, args := #[] }]
def about1 : State := aboutOver below0
def p0 : Program := .bare "" "" ""
def e0 : Env := launch0.env 0 0 0
theorem w_frames : about1.frames = Frame.invoking theMethod args0 :: below0 := rfl
set_option maxRecDepth 65536 in
theorem w_args : argsFit about1.vm theMethod args0 = true := by decide +kernel
set_option maxRecDepth 65536 in
theorem w_heap : heapFits about1 = true := by decide +kernel
set_option maxRecDepth 65536 in
theorem w_runnable : about1.curStatus? = some .runnable := by decide +kernel
set_option maxRecDepth 65536 in
theorem w_alone : about1.alone = true := by decide +kernel
set_option maxRecDepth 65536 in
theorem w_named : about1.methodNamed? x = some theMethod := by decide +kernel
set_option maxRecDepth 65536 in
theorem w_hears : about1.hears theMethod below0 = true := by decide +kernel
set_option maxRecDepth 65536 in
theorem w_ripe : about1.ripe theMethod args0 below0 = true := by decide +kernel
theorem w_running : about1.status = .running := rfl
set_option maxRecDepth 65536 in
theorem w_room : about1.hasRoom e0.platform room_1 = true :=
  launch0.hasRoom_least _ room_1 (by decide +kernel) (by decide +kernel) (by decide +kernel) (by decide +kernel) (by decide +kernel) (by decide +kernel)
theorem allAtoms_all (ts : List Jvm.Cond) (a : Array Jvm.Value) (st : Jvm.State) : (allAtoms ts).before a st = ts.all (fun c => c.before a st) := by
  induction ts with
  | nil => rfl
  | cons c t ih =>
    show (Jvm.Cond.and c (allAtoms t)).before a st = _
    rw [Jvm.Cond.before_and, ih, List.all_cons]
def words1 : List Jvm.Cond := Jvm.Cond.code x code maxLocals ret :: tables_1
/-- a 'code' word, met by the world's own term for the bytes: nothing is compared byte by byte -/
theorem code_word {y : MethodName} {bytes : ByteArray} {mx : Nat} {rt : Option FieldType} {a : Array Value} {s : State} {m : MethodId} {meth : Method} {c : Code} (h1 : s.methodNamed? y = some m) (h2 : s.vm.method? m = some meth) (h3 : meth.code = some c) (h4 : c.code = bytes)
    (h5 : (c.maxLocals == mx && c.exceptionTable.isEmpty && decide (c.maxStack ≤ mostOperands) && decide (meth.sig.returnType = rt) && !meth.locks && decide (parseMethodDescriptor y.desc = some meth.sig)) = true) : (Jvm.Cond.code y bytes mx rt).before a s = true := by
  simp only [Bool.and_eq_true, beq_iff_eq, Bool.not_eq_true', decide_eq_true_eq] at h5
  obtain ⟨⟨⟨⟨⟨g1, g2⟩, g3⟩, g4⟩, g5⟩, g6⟩ := h5
  simp [Cond.before, Cond.holds, Cond.value, h1, h2, h3, h4, g1, g2, g3, g4, g5, g6]
def isCode : Jvm.Cond → Bool
  | .code _ _ _ _ => true
  | _ => false
theorem all_split {L : List Jvm.Cond} {P : Jvm.Cond → Bool} (h1 : L.all (fun c => isCode c || P c) = true) (h2 : ∀ c ∈ L.filter isCode, P c = true) : L.all P = true := by
  refine List.all_eq_true.mpr fun c hc => ?_
  have h := List.all_eq_true.mp h1 c hc
  rcases Bool.eq_false_or_eq_true (isCode c) with hi | hi
  · exact h2 c (List.mem_filter.mpr ⟨hc, hi⟩)
  · simpa [hi] using h
set_option maxRecDepth 65536 in
theorem w_c0 : (Jvm.Cond.code x code maxLocals ret).before args0 about1 = true := code_word (m := ⟨1, 1⟩) (meth := k1m1) (c := k1c1) (by decide +kernel) rfl rfl rfl (by decide +kernel)
set_option maxRecDepth 65536 in
theorem w_c1 : (Jvm.Cond.code ({ cls := "com/example/creditree/creditree/Money", name := "percentInHundredths", desc := "(JJ)J" } : Jvm.MethodName) prog_76_method_12_code (8 : Nat) (Option.some Jvm.ClassFile.FieldType.long)).before args0 about1 = true := code_word (m := ⟨2, 1⟩) (meth := k2m1) (c := k2c1) (by decide +kernel) rfl rfl rfl (by decide +kernel)
set_option maxRecDepth 65536 in
theorem w_c2 : (Jvm.Cond.code ({ cls := "com/example/creditree/creditree/MoneyPercentInHundredthsPinLaw", name := "isRounded", desc := "(JJJ)Z" } : Jvm.MethodName) method_3_code (12 : Nat) (Option.some Jvm.ClassFile.FieldType.boolean)).before args0 about1 = true := code_word (m := ⟨1, 2⟩) (meth := k1m2) (c := k1c2) (by decide +kernel) rfl rfl rfl (by decide +kernel)
def codes1 : List Jvm.Cond := [Jvm.Cond.code x code maxLocals ret, Jvm.Cond.code ({ cls := "com/example/creditree/creditree/Money", name := "percentInHundredths", desc := "(JJ)J" } : Jvm.MethodName) prog_76_method_12_code (8 : Nat) (Option.some Jvm.ClassFile.FieldType.long), Jvm.Cond.code ({ cls := "com/example/creditree/creditree/MoneyPercentInHundredthsPinLaw", name := "isRounded", desc := "(JJJ)Z" } : Jvm.MethodName) method_3_code (12 : Nat) (Option.some Jvm.ClassFile.FieldType.boolean)]
set_option maxRecDepth 65536 in
theorem codes_eq : words1.filter isCode = codes1 := rfl
theorem w_codes : ∀ c ∈ words1.filter isCode, c.before args0 about1 = true := by
  rw [codes_eq]
  intro c hc
  simp only [codes1, List.mem_cons, List.not_mem_nil, or_false] at hc
  rcases hc with rfl | rfl | rfl
  · exact w_c0
  · exact w_c1
  · exact w_c2
set_option maxRecDepth 65536 in
theorem w_t1 : words1.all (fun c => isCode c || c.before args0 about1) = true := by decide +kernel
theorem w_tables : (allAtoms (Jvm.Cond.code x code maxLocals ret :: tables_1)).before args0 about1 = true := by
  rw [allAtoms_all]
  show words1.all (fun c => c.before args0 about1) = true
  refine all_split ?_ w_codes
  rw [w_t1]
set_option maxRecDepth 65536 in
theorem w_case : (Jvm.Cond.and given_1 narrow_1).before args0 about1 = true := by decide +kernel
theorem w_applies : (headSpec (Jvm.Cond.code x code maxLocals ret :: tables_1) room_1).applies x e0.platform about1 = true :=
  (Spec.applies_iff w_frames).mpr ⟨w_running, w_runnable, w_alone, w_named, w_hears, w_ripe, w_room, w_tables⟩
theorem atStart : AtStart classFile x code maxLocals ret World_1 tables_1 room_1 Calls_1 rest_1 Pre_1 launch0 p0 e0 about1 theMethod args0 below0 :=
  ⟨lists_1, trivial, launch0.admits_env _ _ _, launch0.least_env, fairChoices_fair.cas, fairChoices_fair.clock, w_frames, w_args, w_heap, w_applies, trivial, trivial, w_case⟩
end start1
theorem witness_1 : WitnessClaimed_1 := ⟨start1.p0, start1.e0, start1.about1, start1.theMethod, start1.args0, start1.below0, start1.atStart⟩
end Jvm.Pilot.@@N@@
