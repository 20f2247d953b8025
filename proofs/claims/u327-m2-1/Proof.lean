import JvmDerived
import JvmDerived.Pilot.@@N@@Statement
import JvmDerived.Pilot.@@N@@Code
set_option linter.unusedVariables false
set_option linter.unusedSimpArgs false
@@BLOCK:NumsL.lean.txt@@
namespace Jvm.RoadKit
open Sem ClassFile Op Lib Jvm.Stand Jvm.Free Jvm.LawKit
section New
variable {p : Program} {l : Launch} {e : Env} {R : Room} {s : State} {m : MethodId} {args : Array Value} {below : List Frame} {meth : Method} {c : Code} {T : State} {locs : List Loc} {cells slots : Nat}
theorem retI (X : Stand p l e R s m args below meth c T locs cells slots) (hx : p.tables.exec = Jvm.exec) {pc : Nat} {Ls : Array Slot} {z : Int32} {rest : List Value} (hret : meth.sig.returnType = some .int) (hd : decode c.code pc = .ok (.ireturn, 1)) {fs : List Frame}
    (hl : ∀ (f : JFrame) (acts : List Action), f.method = m → f.locked = none → f.entered = [] → (doReturn e (T.setTop f) acts (some (.int z))).1 = T.setFrames fs) : Steps p.tables e below (T.setTop (mkF m pc Ls (.int z :: rest))) (T.setFrames fs) := by
  have hm' : T.vm.method? m = some meth := X.method'
  have hn : narrow .int (.int z) = .int z := rfl
  show Steps p.tables e below (T.setTop { method := m, pc := pc, locals := Ls, stack := _ :: rest, locked := none }) _
  jvm_step X.here [X.here.top, hx, hd, hm', hret, hn]
  first | (intro acts; rw [hl _ acts rfl rfl rfl]) | rw [hl _ _ rfl rfl rfl]
  exact Steps.refl _
end New
end Jvm.RoadKit
namespace Jvm.Pilot.@@N@@
open Jvm Jvm.ClassFile Sem Op Lib Jvm.Free Jvm.Stand Jvm.LawKit Jvm.RoadKit Bundle Jvm.Pilot.@@N@@.Jvm.D
theorem own_nz_J {x : Int64} (h : (0 : Int64) < x) : ¬ (x = (0 : Int64)) := by rintro rfl; exact absurd h (by decide)
theorem own_nz_I {x : Int32} (h : (0 : Int32) < x) : ¬ (x = (0 : Int32)) := by rintro rfl; exact absurd h (by decide)
theorem own_fld {s : State} {args : Array Value} {tt : Term} {a : Addr} {C n d : String} {k : Int32} (ev : tt.eval args s none [] s = some (.ref a)) (h : (Jvm.Cond.eq (.field tt C n d) (.int k)).value args s none s [] = some true) : Fld s s.heap a C n d (.int k) := by
  obtain ⟨u, v, hu, hv, k1, k2⟩ := cmp_v (Or.inl h)
  have hv' : v = .int k := (Option.some.inj (hv.symm.trans (Term.int_eval k)))
  subst hv'
  obtain ⟨z, rfl⟩ := k2
  have hz := gotT (Cond.eq_ints hu hv) h
  subst hz
  exact Fld.start (by rw [← fld_at ev]; exact hu)
def own_at (vs : List Int32) (j : Int32) : Int32 := vs.getD j.toNatClampNeg 0
def own_atL (vs : List Int64) (j : Int32) : Int64 := vs.getD j.toNatClampNeg 0
theorem own_getD (vs : List Int32) (j : Int32) : (vs.map Value.int).getD j.toNatClampNeg (.int (0 : Int32)) = .int (own_at vs j) := by
  unfold own_at
  generalize j.toNatClampNeg = k
  induction vs generalizing k with
  | nil => rfl
  | cons a t ih => cases k with
    | zero => rfl
    | succ k => simpa using ih k
theorem own_getDL (vs : List Int64) (j : Int32) : (vs.map Value.long).getD j.toNatClampNeg (.long (0 : Int64)) = .long (own_atL vs j) := by
  unfold own_atL
  generalize j.toNatClampNeg = k
  induction vs generalizing k with
  | nil => rfl
  | cons a t ih => cases k with
    | zero => rfl
    | succ k => simpa using ih k
theorem d1_0 : decode prog_76_method_6_code 0 = .ok (.lload_n 0, 1) := by decide +kernel
theorem d1_1 : decode prog_76_method_6_code 1 = .ok (.lload_n 2, 1) := by decide +kernel
theorem d1_2 : decode prog_76_method_6_code 2 = .ok (.ladd, 1) := by decide +kernel
theorem d1_3 : decode prog_76_method_6_code 3 = .ok (.lstore 4, 2) := by decide +kernel
theorem d1_5 : decode prog_76_method_6_code 5 = .ok (.lload_n 0, 1) := by decide +kernel
theorem d1_6 : decode prog_76_method_6_code 6 = .ok (.lload 4, 2) := by decide +kernel
theorem d1_8 : decode prog_76_method_6_code 8 = .ok (.lxor, 1) := by decide +kernel
theorem d1_9 : decode prog_76_method_6_code 9 = .ok (.lload_n 2, 1) := by decide +kernel
theorem d1_10 : decode prog_76_method_6_code 10 = .ok (.lload 4, 2) := by decide +kernel
theorem d1_12 : decode prog_76_method_6_code 12 = .ok (.lxor, 1) := by decide +kernel
theorem d1_13 : decode prog_76_method_6_code 13 = .ok (.land, 1) := by decide +kernel
theorem d1_14 : decode prog_76_method_6_code 14 = .ok (.lconst 0, 1) := by decide +kernel
theorem d1_15 : decode prog_76_method_6_code 15 = .ok (.lcmp, 1) := by decide +kernel
theorem d1_16 : decode prog_76_method_6_code 16 = .ok (.ifCond .ge 9, 3) := by decide +kernel
theorem d1_19 : decode prog_76_method_6_code 19 = .ok (.ldc2_w 59, 3) := by decide +kernel
theorem d1_22 : decode prog_76_method_6_code 22 = .ok (.goto 5, 3) := by decide +kernel
theorem d1_25 : decode prog_76_method_6_code 25 = .ok (.lload 4, 2) := by decide +kernel
theorem d1_27 : decode prog_76_method_6_code 27 = .ok (.lreturn, 1) := by decide +kernel
theorem pn_1 : plainName "com/example/creditree/creditree/Money" = true := by first | (simp [plainName, overriddenIn]; done) | decide +kernel
theorem ef_1 (m : MethodId) (x0 : Int64) (x1 : Int64) : entryFrame m #[(.long x0), (.long x1)] 6 = mkF m 0 #[.val (.long x0), .second, .val (.long x1), .second, .unset, .unset] [] := by first | (simp [entryFrame, mkF, argsToLocals, Value.category]; done) | rfl
def f1 (q1 : Int64) (q2 : Int64) : Int64 := (if ((q1 ^^^ (q1 + q2)) &&& (q2 ^^^ (q1 + q2))) < (0 : Int64) then (-9223372036854775808 : Int64) else (q1 + q2))
def Q1 (Z : State) (q1 : Int64) (q2 : Int64) (h0 : Heap) (n0 : Nat) (v : Option Value) (h : Heap) (L : List Loc) : Prop := v = some (.long (f1 q1 q2)) ∧ Fr n0 L ∧ h = h0
set_option maxRecDepth 65536 in
set_option maxHeartbeats 40000000 in
theorem rm1 (l : Launch) (Z : State) (a0 : Array Value) (hw : ∀ d ∈ tables_1, d.before a0 Z = true) (ws : List Jvm.Cond) (q1 : Int64) (q2 : Int64) (h0 : Heap) (n0 : Nat) (Z0 : n0 ≤ h0.size) :
    MetFree l (⟨"com/example/creditree/creditree/Money", "plusCents", "(JJ)J"⟩ : MethodName) (head1 (Jvm.Cond.code (⟨"com/example/creditree/creditree/Money", "plusCents", "(JJ)J"⟩ : MethodName) prog_76_method_6_code 6 (some .long) :: ws) ({ frames := 0, cells := 0, slots := 0, locals := 0 } : Room)) (fun a U => a = #[(.long q1), (.long q2)] ∧ Z.Warmed39 U.vm ∧ U.heap = h0) (fun _ _ _ _ _ => True) (fun _ U o U' => ∃ v L, o = .returned v ∧ Q1 Z q1 q2 h0 n0 v U'.heap L ∧ FrameEnd U o U' L ({ frames := 0, cells := 0, slots := 0, locals := 0 } : Room).cells ({ frames := 0, cells := 0, slots := 0, locals := 0 } : Room).slots) := by
  refine MetFree.of_bodySF (plainFor_of_name pn_1) hisR ?_
  intro p e s m args below meth c s₁ Bd hml0 hP hK
  obtain ⟨rfl, hZ, hh⟩ := hP
  have hx := Bd.exec
  have hby := Bd.bytes
  have hml : c.maxLocals = 6 := hml0
  have hown : s.vm.findClass "com/example/creditree/creditree/Money" = some m.cls := findClass_of_methodNamed Bd.named
  have hnm := (name_of_methodNamed Bd.named Bd.method).1
  have X0 : Stand p l e ({ frames := 0, cells := 0, slots := 0, locals := 0 } : Room) s m #[(.long q1), (.long q2)] below meth c s₁ [] 0 0 := Stand.of_body Bd
  have e0 : s₁.heap = h0 := by rw [← hh, Bd.state]; rfl
  have N0 := Fr.nil n0
  have pre0 : ∀ t, Steps p.tables e below (s₁.setTop (mkF m 0 #[.val (.long q1), .second, .val (.long q2), .second, .unset, .unset] [])) t → Steps p.tables e below (s₁.setTop (entryFrame m #[(.long q1), (.long q2)] 6)) t := fun t k => castTop (ef_1 m q1 q2) k
  have pre3 : ∀ t, Steps p.tables e below (s₁.setTop (mkF m 16 #[.val (.long q1), .second, .val (.long q2), .second, .val (.long (q1 + q2)), .second] [(.int (lcmpW ((q1 ^^^ (q1 + q2)) &&& (q2 ^^^ (q1 + q2))) (0 : Int64)))])) t → Steps p.tables e below (s₁.setTop (entryFrame m #[(.long q1), (.long q2)] 6)) t := fun t kt => by
    refine pre0 _ ?_
    show Steps p.tables e below (s₁.setTop (mkF m 0 #[.val (.long q1), .second, .val (.long q2), .second, .unset, .unset] [])) _
    refine XS.lloadN X0.here hx rfl (hb hby d1_0) rfl ?_
    show Steps p.tables e below (s₁.setTop (mkF m 1 _ [(.long q1)])) _
    refine XS.lloadN X0.here hx rfl (hb hby d1_1) rfl ?_
    show Steps p.tables e below (s₁.setTop (mkF m 2 _ [(.long q2), (.long q1)])) _
    refine XS.ladd X0.here hx rfl (hb hby d1_2) rfl ?_
    show Steps p.tables e below (s₁.setTop (mkF m 3 _ [(.long (q1 + q2))])) _
    refine XS.lstore X0.here hx rfl (hb hby d1_3) rfl (l' := #[.val (.long q1), .second, .val (.long q2), .second, .val (.long (q1 + q2)), .second]) rfl ?_
    show Steps p.tables e below (s₁.setTop (mkF m 5 _ [])) _
    refine XS.lloadN X0.here hx rfl (hb hby d1_5) rfl ?_
    show Steps p.tables e below (s₁.setTop (mkF m 6 _ [(.long q1)])) _
    refine XS.lload X0.here hx rfl (hb hby d1_6) rfl ?_
    show Steps p.tables e below (s₁.setTop (mkF m 8 _ [(.long (q1 + q2)), (.long q1)])) _
    refine XS.lxor X0.here hx rfl (hb hby d1_8) rfl ?_
    show Steps p.tables e below (s₁.setTop (mkF m 9 _ [(.long (q1 ^^^ (q1 + q2)))])) _
    refine XS.lloadN X0.here hx rfl (hb hby d1_9) rfl ?_
    show Steps p.tables e below (s₁.setTop (mkF m 10 _ [(.long q2), (.long (q1 ^^^ (q1 + q2)))])) _
    refine XS.lload X0.here hx rfl (hb hby d1_10) rfl ?_
    show Steps p.tables e below (s₁.setTop (mkF m 12 _ [(.long (q1 + q2)), (.long q2), (.long (q1 ^^^ (q1 + q2)))])) _
    refine XS.lxor X0.here hx rfl (hb hby d1_12) rfl ?_
    show Steps p.tables e below (s₁.setTop (mkF m 13 _ [(.long (q2 ^^^ (q1 + q2))), (.long (q1 ^^^ (q1 + q2)))])) _
    refine XS.land X0.here hx rfl (hb hby d1_13) rfl ?_
    show Steps p.tables e below (s₁.setTop (mkF m 14 _ [(.long ((q1 ^^^ (q1 + q2)) &&& (q2 ^^^ (q1 + q2))))])) _
    refine XS.lconst X0.here hx rfl (hb hby d1_14) ?_
    show Steps p.tables e below (s₁.setTop (mkF m 15 _ [(.long (0 : Int64)), (.long ((q1 ^^^ (q1 + q2)) &&& (q2 ^^^ (q1 + q2))))])) _
    refine XS.lcmp X0.here hx rfl (hb hby d1_15) rfl ?_
    exact kt
  by_cases hc4 : ((q1 ^^^ (q1 + q2)) &&& (q2 ^^^ (q1 + q2))) < (0 : Int64)
  · skip
    obtain ⟨fs, hr, hrun, hended, hW, hsame⟩ := X0.leave (v := some (.long (-9223372036854775808 : Int64))) (fun h => by rw [Bd.returns] at h; cases h) (by first | exact BodyLoose.notSynchronized Bd | exact Body.notSynchronized Bd)
    refine ⟨_, _, pre3 _ ?_, hrun, hended, _, _, rfl, ?_, ⟨_, rfl⟩, hW, hsame.mono (by decide) (by decide)⟩
    · show Steps p.tables e below (s₁.setTop (mkF m 16 #[.val (.long q1), .second, .val (.long q2), .second, .val (.long (q1 + q2)), .second] [(.int (lcmpW ((q1 ^^^ (q1 + q2)) &&& (q2 ^^^ (q1 + q2))) (0 : Int64)))])) _
      refine XS.ifNo X0.here hx rfl (hb hby d1_16) rfl ((if0 _ _).trans (tlt ((lw_lt _ _).mpr hc4)).2.1) ?_
      show Steps p.tables e below (s₁.setTop (mkF m 19 _ [])) _
      refine X0.ldc2Long hx hown (mvT hZ (hw _ (List.mem_of_getElem? (i := 10) rfl))) (g := (mkF m 19 #[.val (.long q1), .second, .val (.long q2), .second, .val (.long (q1 + q2)), .second] [])) rfl (hb hby d1_19) _ ?_
      show Steps p.tables e below (s₁.setTop (mkF m 22 _ [(.long (-9223372036854775808 : Int64))])) _
      refine XS.goto X0.here hx rfl (pc0 := 22) (pc' := 27) rfl (hb hby d1_22) (by decide) (by decide) ?_
      show Steps p.tables e below (s₁.setTop (mkF m 27 #[.val (.long q1), .second, .val (.long q2), .second, .val (.long (q1 + q2)), .second] [(.long (-9223372036854775808 : Int64))])) _
      exact X0.lreturnOut hx Bd.returns (hb hby d1_27) hr
    · show Q1 Z q1 q2 h0 n0 _ s₁.heap _
      rw [e0]
      exact ⟨congrArg (fun z => some (Value.long z)) (by rw [f1, if_pos hc4] : f1 q1 q2 = (-9223372036854775808 : Int64)).symm, N0, rfl⟩
  · skip
    obtain ⟨fs, hr, hrun, hended, hW, hsame⟩ := X0.leave (v := some (.long (q1 + q2))) (fun h => by rw [Bd.returns] at h; cases h) (by first | exact BodyLoose.notSynchronized Bd | exact Body.notSynchronized Bd)
    refine ⟨_, _, pre3 _ ?_, hrun, hended, _, _, rfl, ?_, ⟨_, rfl⟩, hW, hsame.mono (by decide) (by decide)⟩
    · show Steps p.tables e below (s₁.setTop (mkF m 16 #[.val (.long q1), .second, .val (.long q2), .second, .val (.long (q1 + q2)), .second] [(.int (lcmpW ((q1 ^^^ (q1 + q2)) &&& (q2 ^^^ (q1 + q2))) (0 : Int64)))])) _
      refine XS.ifYes X0.here hx rfl (pc0 := 16) (pc' := 25) rfl (hb hby d1_16) rfl ((if0 _ _).trans (flt (mt (lw_lt _ _).mp hc4)).2.1) (by decide) (by decide) ?_
      show Steps p.tables e below (s₁.setTop (mkF m 25 _ [])) _
      refine XS.lload X0.here hx rfl (hb hby d1_25) rfl ?_
      show Steps p.tables e below (s₁.setTop (mkF m 27 #[.val (.long q1), .second, .val (.long q2), .second, .val (.long (q1 + q2)), .second] [(.long (q1 + q2))])) _
      exact X0.lreturnOut hx Bd.returns (hb hby d1_27) hr
    · show Q1 Z q1 q2 h0 n0 _ s₁.heap _
      rw [e0]
      exact ⟨congrArg (fun z => some (Value.long z)) (by rw [f1, if_neg hc4] : f1 q1 q2 = (q1 + q2)).symm, N0, rfl⟩
theorem d2_0 : decode method_2_code 0 = .ok (.lload_n 0, 1) := by decide +kernel
theorem d2_1 : decode method_2_code 1 = .ok (.lconst 0, 1) := by decide +kernel
theorem d2_2 : decode method_2_code 2 = .ok (.lcmp, 1) := by decide +kernel
theorem d2_3 : decode method_2_code 3 = .ok (.ifCond .lt 29, 3) := by decide +kernel
theorem d2_6 : decode method_2_code 6 = .ok (.lload_n 2, 1) := by decide +kernel
theorem d2_7 : decode method_2_code 7 = .ok (.lconst 0, 1) := by decide +kernel
theorem d2_8 : decode method_2_code 8 = .ok (.lcmp, 1) := by decide +kernel
theorem d2_9 : decode method_2_code 9 = .ok (.ifCond .lt 23, 3) := by decide +kernel
theorem d2_12 : decode method_2_code 12 = .ok (.lload_n 0, 1) := by decide +kernel
theorem d2_13 : decode method_2_code 13 = .ok (.ldc2_w 9, 3) := by decide +kernel
theorem d2_16 : decode method_2_code 16 = .ok (.lload_n 2, 1) := by decide +kernel
theorem d2_17 : decode method_2_code 17 = .ok (.lsub, 1) := by decide +kernel
theorem d2_18 : decode method_2_code 18 = .ok (.lcmp, 1) := by decide +kernel
theorem d2_19 : decode method_2_code 19 = .ok (.ifCond .gt 7, 3) := by decide +kernel
theorem d2_22 : decode method_2_code 22 = .ok (.iconst 1, 1) := by decide +kernel
theorem d2_23 : decode method_2_code 23 = .ok (.goto 4, 3) := by decide +kernel
theorem d2_26 : decode method_2_code 26 = .ok (.iconst 0, 1) := by decide +kernel
theorem d2_27 : decode method_2_code 27 = .ok (.istore 4, 2) := by decide +kernel
theorem d2_29 : decode method_2_code 29 = .ok (.goto 38, 3) := by decide +kernel
theorem d2_32 : decode method_2_code 32 = .ok (.lload_n 0, 1) := by decide +kernel
theorem d2_33 : decode method_2_code 33 = .ok (.lconst 0, 1) := by decide +kernel
theorem d2_34 : decode method_2_code 34 = .ok (.lcmp, 1) := by decide +kernel
theorem d2_35 : decode method_2_code 35 = .ok (.ifCond .ge 29, 3) := by decide +kernel
theorem d2_38 : decode method_2_code 38 = .ok (.lload_n 2, 1) := by decide +kernel
theorem d2_39 : decode method_2_code 39 = .ok (.lconst 0, 1) := by decide +kernel
theorem d2_40 : decode method_2_code 40 = .ok (.lcmp, 1) := by decide +kernel
theorem d2_41 : decode method_2_code 41 = .ok (.ifCond .ge 23, 3) := by decide +kernel
theorem d2_44 : decode method_2_code 44 = .ok (.lload_n 0, 1) := by decide +kernel
theorem d2_45 : decode method_2_code 45 = .ok (.ldc2_w 11, 3) := by decide +kernel
theorem d2_48 : decode method_2_code 48 = .ok (.lload_n 2, 1) := by decide +kernel
theorem d2_49 : decode method_2_code 49 = .ok (.lsub, 1) := by decide +kernel
theorem d2_50 : decode method_2_code 50 = .ok (.lcmp, 1) := by decide +kernel
theorem d2_51 : decode method_2_code 51 = .ok (.ifCond .lt 7, 3) := by decide +kernel
theorem d2_54 : decode method_2_code 54 = .ok (.iconst 1, 1) := by decide +kernel
theorem d2_55 : decode method_2_code 55 = .ok (.goto 4, 3) := by decide +kernel
theorem d2_58 : decode method_2_code 58 = .ok (.iconst 0, 1) := by decide +kernel
theorem d2_59 : decode method_2_code 59 = .ok (.istore 4, 2) := by decide +kernel
theorem d2_61 : decode method_2_code 61 = .ok (.goto 6, 3) := by decide +kernel
theorem d2_64 : decode method_2_code 64 = .ok (.iconst 1, 1) := by decide +kernel
theorem d2_65 : decode method_2_code 65 = .ok (.istore 4, 2) := by decide +kernel
theorem d2_67 : decode method_2_code 67 = .ok (.iload 4, 2) := by decide +kernel
theorem d2_69 : decode method_2_code 69 = .ok (.ifCond .ne 7, 3) := by decide +kernel
theorem d2_72 : decode method_2_code 72 = .ok (.ldc2_w 11, 3) := by decide +kernel
theorem d2_75 : decode method_2_code 75 = .ok (.lreturn, 1) := by decide +kernel
theorem d2_76 : decode method_2_code 76 = .ok (.lload_n 0, 1) := by decide +kernel
theorem d2_77 : decode method_2_code 77 = .ok (.lload_n 2, 1) := by decide +kernel
theorem d2_78 : decode method_2_code 78 = .ok (.ladd, 1) := by decide +kernel
theorem d2_79 : decode method_2_code 79 = .ok (.lreturn, 1) := by decide +kernel
theorem pn_2 : plainName "com/example/creditree/creditree/MoneyPlusCentsPinLaw" = true := by first | (simp [plainName, overriddenIn]; done) | decide +kernel
theorem ef_2 (m : MethodId) (x0 : Int64) (x1 : Int64) : entryFrame m #[(.long x0), (.long x1)] 5 = mkF m 0 #[.val (.long x0), .second, .val (.long x1), .second, .unset] [] := by first | (simp [entryFrame, mkF, argsToLocals, Value.category]; done) | rfl
def f2 (q1 : Int64) (q2 : Int64) : Int64 := (if q1 < (0 : Int64) then (if q2 < (0 : Int64) then (if q1 < ((-9223372036854775808 : Int64) - q2) then (-9223372036854775808 : Int64) else (q1 + q2)) else (q1 + q2)) else (if q2 < (0 : Int64) then (q1 + q2) else (if ((9223372036854775807 : Int64) - q2) < q1 then (-9223372036854775808 : Int64) else (q1 + q2))))
def Q2 (Z : State) (q1 : Int64) (q2 : Int64) (h0 : Heap) (n0 : Nat) (v : Option Value) (h : Heap) (L : List Loc) : Prop := v = some (.long (f2 q1 q2)) ∧ Fr n0 L ∧ h = h0
set_option maxRecDepth 65536 in
set_option maxHeartbeats 40000000 in
theorem rm2 (l : Launch) (Z : State) (a0 : Array Value) (hw : ∀ d ∈ tables_1, d.before a0 Z = true) (ws : List Jvm.Cond) (q1 : Int64) (q2 : Int64) (h0 : Heap) (n0 : Nat) (Z0 : n0 ≤ h0.size) :
    MetFree l (⟨"com/example/creditree/creditree/MoneyPlusCentsPinLaw", "expected", "(JJ)J"⟩ : MethodName) (head1 (Jvm.Cond.code (⟨"com/example/creditree/creditree/MoneyPlusCentsPinLaw", "expected", "(JJ)J"⟩ : MethodName) method_2_code 5 (some .long) :: ws) ({ frames := 0, cells := 0, slots := 0, locals := 0 } : Room)) (fun a U => a = #[(.long q1), (.long q2)] ∧ Z.Warmed39 U.vm ∧ U.heap = h0) (fun _ _ _ _ _ => True) (fun _ U o U' => ∃ v L, o = .returned v ∧ Q2 Z q1 q2 h0 n0 v U'.heap L ∧ FrameEnd U o U' L ({ frames := 0, cells := 0, slots := 0, locals := 0 } : Room).cells ({ frames := 0, cells := 0, slots := 0, locals := 0 } : Room).slots) := by
  refine MetFree.of_bodySF (plainFor_of_name pn_2) hisR ?_
  intro p e s m args below meth c s₁ Bd hml0 hP hK
  obtain ⟨rfl, hZ, hh⟩ := hP
  have hx := Bd.exec
  have hby := Bd.bytes
  have hml : c.maxLocals = 5 := hml0
  have hown : s.vm.findClass "com/example/creditree/creditree/MoneyPlusCentsPinLaw" = some m.cls := findClass_of_methodNamed Bd.named
  have hnm := (name_of_methodNamed Bd.named Bd.method).1
  have X0 : Stand p l e ({ frames := 0, cells := 0, slots := 0, locals := 0 } : Room) s m #[(.long q1), (.long q2)] below meth c s₁ [] 0 0 := Stand.of_body Bd
  have e0 : s₁.heap = h0 := by rw [← hh, Bd.state]; rfl
  have N0 := Fr.nil n0
  have pre0 : ∀ t, Steps p.tables e below (s₁.setTop (mkF m 0 #[.val (.long q1), .second, .val (.long q2), .second, .unset] [])) t → Steps p.tables e below (s₁.setTop (entryFrame m #[(.long q1), (.long q2)] 5)) t := fun t k => castTop (ef_2 m q1 q2) k
  have pre3 : ∀ t, Steps p.tables e below (s₁.setTop (mkF m 3 #[.val (.long q1), .second, .val (.long q2), .second, .unset] [(.int (lcmpW q1 (0 : Int64)))])) t → Steps p.tables e below (s₁.setTop (entryFrame m #[(.long q1), (.long q2)] 5)) t := fun t kt => by
    refine pre0 _ ?_
    show Steps p.tables e below (s₁.setTop (mkF m 0 #[.val (.long q1), .second, .val (.long q2), .second, .unset] [])) _
    refine XS.lloadN X0.here hx rfl (hb hby d2_0) rfl ?_
    show Steps p.tables e below (s₁.setTop (mkF m 1 _ [(.long q1)])) _
    refine XS.lconst X0.here hx rfl (hb hby d2_1) ?_
    show Steps p.tables e below (s₁.setTop (mkF m 2 _ [(.long (0 : Int64)), (.long q1)])) _
    refine XS.lcmp X0.here hx rfl (hb hby d2_2) rfl ?_
    exact kt
  by_cases hc4 : q1 < (0 : Int64)
  · skip
    have pre5 : ∀ t, Steps p.tables e below (s₁.setTop (mkF m 41 #[.val (.long q1), .second, .val (.long q2), .second, .unset] [(.int (lcmpW q2 (0 : Int64)))])) t → Steps p.tables e below (s₁.setTop (entryFrame m #[(.long q1), (.long q2)] 5)) t := fun t kt => by
      refine pre3 _ ?_
      show Steps p.tables e below (s₁.setTop (mkF m 3 #[.val (.long q1), .second, .val (.long q2), .second, .unset] [(.int (lcmpW q1 (0 : Int64)))])) _
      refine XS.ifYes X0.here hx rfl (pc0 := 3) (pc' := 32) rfl (hb hby d2_3) rfl ((if0 _ _).trans (tlt ((lw_lt _ _).mpr hc4)).1) (by decide) (by decide) ?_
      show Steps p.tables e below (s₁.setTop (mkF m 32 _ [])) _
      refine XS.lloadN X0.here hx rfl (hb hby d2_32) rfl ?_
      show Steps p.tables e below (s₁.setTop (mkF m 33 _ [(.long q1)])) _
      refine XS.lconst X0.here hx rfl (hb hby d2_33) ?_
      show Steps p.tables e below (s₁.setTop (mkF m 34 _ [(.long (0 : Int64)), (.long q1)])) _
      refine XS.lcmp X0.here hx rfl (hb hby d2_34) rfl ?_
      show Steps p.tables e below (s₁.setTop (mkF m 35 _ [(.int (lcmpW q1 (0 : Int64)))])) _
      refine XS.ifNo X0.here hx rfl (hb hby d2_35) rfl ((if0 _ _).trans (tlt ((lw_lt _ _).mpr hc4)).2.1) ?_
      show Steps p.tables e below (s₁.setTop (mkF m 38 _ [])) _
      refine XS.lloadN X0.here hx rfl (hb hby d2_38) rfl ?_
      show Steps p.tables e below (s₁.setTop (mkF m 39 _ [(.long q2)])) _
      refine XS.lconst X0.here hx rfl (hb hby d2_39) ?_
      show Steps p.tables e below (s₁.setTop (mkF m 40 _ [(.long (0 : Int64)), (.long q2)])) _
      refine XS.lcmp X0.here hx rfl (hb hby d2_40) rfl ?_
      exact kt
    by_cases hc6 : q2 < (0 : Int64)
    · skip
      have pre7 : ∀ t, Steps p.tables e below (s₁.setTop (mkF m 51 #[.val (.long q1), .second, .val (.long q2), .second, .unset] [(.int (lcmpW q1 ((-9223372036854775808 : Int64) - q2)))])) t → Steps p.tables e below (s₁.setTop (entryFrame m #[(.long q1), (.long q2)] 5)) t := fun t kt => by
        refine pre5 _ ?_
        show Steps p.tables e below (s₁.setTop (mkF m 41 #[.val (.long q1), .second, .val (.long q2), .second, .unset] [(.int (lcmpW q2 (0 : Int64)))])) _
        refine XS.ifNo X0.here hx rfl (hb hby d2_41) rfl ((if0 _ _).trans (tlt ((lw_lt _ _).mpr hc6)).2.1) ?_
        show Steps p.tables e below (s₁.setTop (mkF m 44 _ [])) _
        refine XS.lloadN X0.here hx rfl (hb hby d2_44) rfl ?_
        show Steps p.tables e below (s₁.setTop (mkF m 45 _ [(.long q1)])) _
        refine X0.ldc2Long hx hown (mvT hZ (hw _ (List.mem_of_getElem? (i := 0) rfl))) (g := (mkF m 45 #[.val (.long q1), .second, .val (.long q2), .second, .unset] [(.long q1)])) rfl (hb hby d2_45) _ ?_
        show Steps p.tables e below (s₁.setTop (mkF m 48 _ [(.long (-9223372036854775808 : Int64)), (.long q1)])) _
        refine XS.lloadN X0.here hx rfl (hb hby d2_48) rfl ?_
        show Steps p.tables e below (s₁.setTop (mkF m 49 _ [(.long q2), (.long (-9223372036854775808 : Int64)), (.long q1)])) _
        refine XS.lsub X0.here hx rfl (hb hby d2_49) rfl ?_
        show Steps p.tables e below (s₁.setTop (mkF m 50 _ [(.long ((-9223372036854775808 : Int64) - q2)), (.long q1)])) _
        refine XS.lcmp X0.here hx rfl (hb hby d2_50) rfl ?_
        exact kt
      by_cases hc8 : q1 < ((-9223372036854775808 : Int64) - q2)
      · skip
        obtain ⟨fs, hr, hrun, hended, hW, hsame⟩ := X0.leave (v := some (.long (-9223372036854775808 : Int64))) (fun h => by rw [Bd.returns] at h; cases h) (by first | exact BodyLoose.notSynchronized Bd | exact Body.notSynchronized Bd)
        refine ⟨_, _, pre7 _ ?_, hrun, hended, _, _, rfl, ?_, ⟨_, rfl⟩, hW, hsame.mono (by decide) (by decide)⟩
        · show Steps p.tables e below (s₁.setTop (mkF m 51 #[.val (.long q1), .second, .val (.long q2), .second, .unset] [(.int (lcmpW q1 ((-9223372036854775808 : Int64) - q2)))])) _
          refine XS.ifYes X0.here hx rfl (pc0 := 51) (pc' := 58) rfl (hb hby d2_51) rfl ((if0 _ _).trans (tlt ((lw_lt _ _).mpr hc8)).1) (by decide) (by decide) ?_
          show Steps p.tables e below (s₁.setTop (mkF m 58 _ [])) _
          refine XS.iconst X0.here hx rfl (hb hby d2_58) ?_
          show Steps p.tables e below (s₁.setTop (mkF m 59 _ [(.int (0 : Int32))])) _
          refine XS.istore X0.here hx rfl (hb hby d2_59) rfl (l' := #[.val (.long q1), .second, .val (.long q2), .second, .val (.int (0 : Int32))]) rfl ?_
          show Steps p.tables e below (s₁.setTop (mkF m 61 _ [])) _
          refine XS.goto X0.here hx rfl (pc0 := 61) (pc' := 67) rfl (hb hby d2_61) (by decide) (by decide) ?_
          show Steps p.tables e below (s₁.setTop (mkF m 67 _ [])) _
          refine XS.iload X0.here hx rfl (hb hby d2_67) rfl ?_
          show Steps p.tables e below (s₁.setTop (mkF m 69 _ [(.int (0 : Int32))])) _
          refine XS.ifNo X0.here hx rfl (hb hby d2_69) rfl ((if0 _ _).trans (teq (by decide)).2) ?_
          show Steps p.tables e below (s₁.setTop (mkF m 72 _ [])) _
          refine X0.ldc2Long hx hown (mvT hZ (hw _ (List.mem_of_getElem? (i := 0) rfl))) (g := (mkF m 72 #[.val (.long q1), .second, .val (.long q2), .second, .val (.int (0 : Int32))] [])) rfl (hb hby d2_72) _ ?_
          show Steps p.tables e below (s₁.setTop (mkF m 75 #[.val (.long q1), .second, .val (.long q2), .second, .val (.int (0 : Int32))] [(.long (-9223372036854775808 : Int64))])) _
          exact X0.lreturnOut hx Bd.returns (hb hby d2_75) hr
        · show Q2 Z q1 q2 h0 n0 _ s₁.heap _
          rw [e0]
          exact ⟨congrArg (fun z => some (Value.long z)) (by rw [f2, if_pos hc4, if_pos hc6, if_pos hc8] : f2 q1 q2 = (-9223372036854775808 : Int64)).symm, N0, rfl⟩
      · skip
        obtain ⟨fs, hr, hrun, hended, hW, hsame⟩ := X0.leave (v := some (.long (q1 + q2))) (fun h => by rw [Bd.returns] at h; cases h) (by first | exact BodyLoose.notSynchronized Bd | exact Body.notSynchronized Bd)
        refine ⟨_, _, pre7 _ ?_, hrun, hended, _, _, rfl, ?_, ⟨_, rfl⟩, hW, hsame.mono (by decide) (by decide)⟩
        · show Steps p.tables e below (s₁.setTop (mkF m 51 #[.val (.long q1), .second, .val (.long q2), .second, .unset] [(.int (lcmpW q1 ((-9223372036854775808 : Int64) - q2)))])) _
          refine XS.ifNo X0.here hx rfl (hb hby d2_51) rfl ((if0 _ _).trans (flt (mt (lw_lt _ _).mp hc8)).1) ?_
          show Steps p.tables e below (s₁.setTop (mkF m 54 _ [])) _
          refine XS.iconst X0.here hx rfl (hb hby d2_54) ?_
          show Steps p.tables e below (s₁.setTop (mkF m 55 _ [(.int (1 : Int32))])) _
          refine XS.goto X0.here hx rfl (pc0 := 55) (pc' := 59) rfl (hb hby d2_55) (by decide) (by decide) ?_
          show Steps p.tables e below (s₁.setTop (mkF m 59 _ [(.int (1 : Int32))])) _
          refine XS.istore X0.here hx rfl (hb hby d2_59) rfl (l' := #[.val (.long q1), .second, .val (.long q2), .second, .val (.int (1 : Int32))]) rfl ?_
          show Steps p.tables e below (s₁.setTop (mkF m 61 _ [])) _
          refine XS.goto X0.here hx rfl (pc0 := 61) (pc' := 67) rfl (hb hby d2_61) (by decide) (by decide) ?_
          show Steps p.tables e below (s₁.setTop (mkF m 67 _ [])) _
          refine XS.iload X0.here hx rfl (hb hby d2_67) rfl ?_
          show Steps p.tables e below (s₁.setTop (mkF m 69 _ [(.int (1 : Int32))])) _
          refine XS.ifYes X0.here hx rfl (pc0 := 69) (pc' := 76) rfl (hb hby d2_69) rfl ((if0 _ _).trans (feq (by decide)).2) (by decide) (by decide) ?_
          show Steps p.tables e below (s₁.setTop (mkF m 76 _ [])) _
          refine XS.lloadN X0.here hx rfl (hb hby d2_76) rfl ?_
          show Steps p.tables e below (s₁.setTop (mkF m 77 _ [(.long q1)])) _
          refine XS.lloadN X0.here hx rfl (hb hby d2_77) rfl ?_
          show Steps p.tables e below (s₁.setTop (mkF m 78 _ [(.long q2), (.long q1)])) _
          refine XS.ladd X0.here hx rfl (hb hby d2_78) rfl ?_
          show Steps p.tables e below (s₁.setTop (mkF m 79 #[.val (.long q1), .second, .val (.long q2), .second, .val (.int (1 : Int32))] [(.long (q1 + q2))])) _
          exact X0.lreturnOut hx Bd.returns (hb hby d2_79) hr
        · show Q2 Z q1 q2 h0 n0 _ s₁.heap _
          rw [e0]
          exact ⟨congrArg (fun z => some (Value.long z)) (by rw [f2, if_pos hc4, if_pos hc6, if_neg hc8] : f2 q1 q2 = (q1 + q2)).symm, N0, rfl⟩
    · skip
      obtain ⟨fs, hr, hrun, hended, hW, hsame⟩ := X0.leave (v := some (.long (q1 + q2))) (fun h => by rw [Bd.returns] at h; cases h) (by first | exact BodyLoose.notSynchronized Bd | exact Body.notSynchronized Bd)
      refine ⟨_, _, pre5 _ ?_, hrun, hended, _, _, rfl, ?_, ⟨_, rfl⟩, hW, hsame.mono (by decide) (by decide)⟩
      · show Steps p.tables e below (s₁.setTop (mkF m 41 #[.val (.long q1), .second, .val (.long q2), .second, .unset] [(.int (lcmpW q2 (0 : Int64)))])) _
        refine XS.ifYes X0.here hx rfl (pc0 := 41) (pc' := 64) rfl (hb hby d2_41) rfl ((if0 _ _).trans (flt (mt (lw_lt _ _).mp hc6)).2.1) (by decide) (by decide) ?_
        show Steps p.tables e below (s₁.setTop (mkF m 64 _ [])) _
        refine XS.iconst X0.here hx rfl (hb hby d2_64) ?_
        show Steps p.tables e below (s₁.setTop (mkF m 65 _ [(.int (1 : Int32))])) _
        refine XS.istore X0.here hx rfl (hb hby d2_65) rfl (l' := #[.val (.long q1), .second, .val (.long q2), .second, .val (.int (1 : Int32))]) rfl ?_
        show Steps p.tables e below (s₁.setTop (mkF m 67 _ [])) _
        refine XS.iload X0.here hx rfl (hb hby d2_67) rfl ?_
        show Steps p.tables e below (s₁.setTop (mkF m 69 _ [(.int (1 : Int32))])) _
        refine XS.ifYes X0.here hx rfl (pc0 := 69) (pc' := 76) rfl (hb hby d2_69) rfl ((if0 _ _).trans (feq (by decide)).2) (by decide) (by decide) ?_
        show Steps p.tables e below (s₁.setTop (mkF m 76 _ [])) _
        refine XS.lloadN X0.here hx rfl (hb hby d2_76) rfl ?_
        show Steps p.tables e below (s₁.setTop (mkF m 77 _ [(.long q1)])) _
        refine XS.lloadN X0.here hx rfl (hb hby d2_77) rfl ?_
        show Steps p.tables e below (s₁.setTop (mkF m 78 _ [(.long q2), (.long q1)])) _
        refine XS.ladd X0.here hx rfl (hb hby d2_78) rfl ?_
        show Steps p.tables e below (s₁.setTop (mkF m 79 #[.val (.long q1), .second, .val (.long q2), .second, .val (.int (1 : Int32))] [(.long (q1 + q2))])) _
        exact X0.lreturnOut hx Bd.returns (hb hby d2_79) hr
      · show Q2 Z q1 q2 h0 n0 _ s₁.heap _
        rw [e0]
        exact ⟨congrArg (fun z => some (Value.long z)) (by rw [f2, if_pos hc4, if_neg hc6] : f2 q1 q2 = (q1 + q2)).symm, N0, rfl⟩
  · skip
    have pre9 : ∀ t, Steps p.tables e below (s₁.setTop (mkF m 9 #[.val (.long q1), .second, .val (.long q2), .second, .unset] [(.int (lcmpW q2 (0 : Int64)))])) t → Steps p.tables e below (s₁.setTop (entryFrame m #[(.long q1), (.long q2)] 5)) t := fun t kt => by
      refine pre3 _ ?_
      show Steps p.tables e below (s₁.setTop (mkF m 3 #[.val (.long q1), .second, .val (.long q2), .second, .unset] [(.int (lcmpW q1 (0 : Int64)))])) _
      refine XS.ifNo X0.here hx rfl (hb hby d2_3) rfl ((if0 _ _).trans (flt (mt (lw_lt _ _).mp hc4)).1) ?_
      show Steps p.tables e below (s₁.setTop (mkF m 6 _ [])) _
      refine XS.lloadN X0.here hx rfl (hb hby d2_6) rfl ?_
      show Steps p.tables e below (s₁.setTop (mkF m 7 _ [(.long q2)])) _
      refine XS.lconst X0.here hx rfl (hb hby d2_7) ?_
      show Steps p.tables e below (s₁.setTop (mkF m 8 _ [(.long (0 : Int64)), (.long q2)])) _
      refine XS.lcmp X0.here hx rfl (hb hby d2_8) rfl ?_
      exact kt
    by_cases hc10 : q2 < (0 : Int64)
    · skip
      obtain ⟨fs, hr, hrun, hended, hW, hsame⟩ := X0.leave (v := some (.long (q1 + q2))) (fun h => by rw [Bd.returns] at h; cases h) (by first | exact BodyLoose.notSynchronized Bd | exact Body.notSynchronized Bd)
      refine ⟨_, _, pre9 _ ?_, hrun, hended, _, _, rfl, ?_, ⟨_, rfl⟩, hW, hsame.mono (by decide) (by decide)⟩
      · show Steps p.tables e below (s₁.setTop (mkF m 9 #[.val (.long q1), .second, .val (.long q2), .second, .unset] [(.int (lcmpW q2 (0 : Int64)))])) _
        refine XS.ifYes X0.here hx rfl (pc0 := 9) (pc' := 32) rfl (hb hby d2_9) rfl ((if0 _ _).trans (tlt ((lw_lt _ _).mpr hc10)).1) (by decide) (by decide) ?_
        show Steps p.tables e below (s₁.setTop (mkF m 32 _ [])) _
        refine XS.lloadN X0.here hx rfl (hb hby d2_32) rfl ?_
        show Steps p.tables e below (s₁.setTop (mkF m 33 _ [(.long q1)])) _
        refine XS.lconst X0.here hx rfl (hb hby d2_33) ?_
        show Steps p.tables e below (s₁.setTop (mkF m 34 _ [(.long (0 : Int64)), (.long q1)])) _
        refine XS.lcmp X0.here hx rfl (hb hby d2_34) rfl ?_
        show Steps p.tables e below (s₁.setTop (mkF m 35 _ [(.int (lcmpW q1 (0 : Int64)))])) _
        refine XS.ifYes X0.here hx rfl (pc0 := 35) (pc' := 64) rfl (hb hby d2_35) rfl ((if0 _ _).trans (flt (mt (lw_lt _ _).mp hc4)).2.1) (by decide) (by decide) ?_
        show Steps p.tables e below (s₁.setTop (mkF m 64 _ [])) _
        refine XS.iconst X0.here hx rfl (hb hby d2_64) ?_
        show Steps p.tables e below (s₁.setTop (mkF m 65 _ [(.int (1 : Int32))])) _
        refine XS.istore X0.here hx rfl (hb hby d2_65) rfl (l' := #[.val (.long q1), .second, .val (.long q2), .second, .val (.int (1 : Int32))]) rfl ?_
        show Steps p.tables e below (s₁.setTop (mkF m 67 _ [])) _
        refine XS.iload X0.here hx rfl (hb hby d2_67) rfl ?_
        show Steps p.tables e below (s₁.setTop (mkF m 69 _ [(.int (1 : Int32))])) _
        refine XS.ifYes X0.here hx rfl (pc0 := 69) (pc' := 76) rfl (hb hby d2_69) rfl ((if0 _ _).trans (feq (by decide)).2) (by decide) (by decide) ?_
        show Steps p.tables e below (s₁.setTop (mkF m 76 _ [])) _
        refine XS.lloadN X0.here hx rfl (hb hby d2_76) rfl ?_
        show Steps p.tables e below (s₁.setTop (mkF m 77 _ [(.long q1)])) _
        refine XS.lloadN X0.here hx rfl (hb hby d2_77) rfl ?_
        show Steps p.tables e below (s₁.setTop (mkF m 78 _ [(.long q2), (.long q1)])) _
        refine XS.ladd X0.here hx rfl (hb hby d2_78) rfl ?_
        show Steps p.tables e below (s₁.setTop (mkF m 79 #[.val (.long q1), .second, .val (.long q2), .second, .val (.int (1 : Int32))] [(.long (q1 + q2))])) _
        exact X0.lreturnOut hx Bd.returns (hb hby d2_79) hr
      · show Q2 Z q1 q2 h0 n0 _ s₁.heap _
        rw [e0]
        exact ⟨congrArg (fun z => some (Value.long z)) (by rw [f2, if_neg hc4, if_pos hc10] : f2 q1 q2 = (q1 + q2)).symm, N0, rfl⟩
    · skip
      have pre11 : ∀ t, Steps p.tables e below (s₁.setTop (mkF m 19 #[.val (.long q1), .second, .val (.long q2), .second, .unset] [(.int (lcmpW q1 ((9223372036854775807 : Int64) - q2)))])) t → Steps p.tables e below (s₁.setTop (entryFrame m #[(.long q1), (.long q2)] 5)) t := fun t kt => by
        refine pre9 _ ?_
        show Steps p.tables e below (s₁.setTop (mkF m 9 #[.val (.long q1), .second, .val (.long q2), .second, .unset] [(.int (lcmpW q2 (0 : Int64)))])) _
        refine XS.ifNo X0.here hx rfl (hb hby d2_9) rfl ((if0 _ _).trans (flt (mt (lw_lt _ _).mp hc10)).1) ?_
        show Steps p.tables e below (s₁.setTop (mkF m 12 _ [])) _
        refine XS.lloadN X0.here hx rfl (hb hby d2_12) rfl ?_
        show Steps p.tables e below (s₁.setTop (mkF m 13 _ [(.long q1)])) _
        refine X0.ldc2Long hx hown (mvT hZ (hw _ (List.mem_of_getElem? (i := 9) rfl))) (g := (mkF m 13 #[.val (.long q1), .second, .val (.long q2), .second, .unset] [(.long q1)])) rfl (hb hby d2_13) _ ?_
        show Steps p.tables e below (s₁.setTop (mkF m 16 _ [(.long (9223372036854775807 : Int64)), (.long q1)])) _
        refine XS.lloadN X0.here hx rfl (hb hby d2_16) rfl ?_
        show Steps p.tables e below (s₁.setTop (mkF m 17 _ [(.long q2), (.long (9223372036854775807 : Int64)), (.long q1)])) _
        refine XS.lsub X0.here hx rfl (hb hby d2_17) rfl ?_
        show Steps p.tables e below (s₁.setTop (mkF m 18 _ [(.long ((9223372036854775807 : Int64) - q2)), (.long q1)])) _
        refine XS.lcmp X0.here hx rfl (hb hby d2_18) rfl ?_
        exact kt
      by_cases hc12 : ((9223372036854775807 : Int64) - q2) < q1
      · skip
        obtain ⟨fs, hr, hrun, hended, hW, hsame⟩ := X0.leave (v := some (.long (-9223372036854775808 : Int64))) (fun h => by rw [Bd.returns] at h; cases h) (by first | exact BodyLoose.notSynchronized Bd | exact Body.notSynchronized Bd)
        refine ⟨_, _, pre11 _ ?_, hrun, hended, _, _, rfl, ?_, ⟨_, rfl⟩, hW, hsame.mono (by decide) (by decide)⟩
        · show Steps p.tables e below (s₁.setTop (mkF m 19 #[.val (.long q1), .second, .val (.long q2), .second, .unset] [(.int (lcmpW q1 ((9223372036854775807 : Int64) - q2)))])) _
          refine XS.ifYes X0.here hx rfl (pc0 := 19) (pc' := 26) rfl (hb hby d2_19) rfl ((if0 _ _).trans (tlt ((lw_gt _ _).mpr hc12)).2.2.1) (by decide) (by decide) ?_
          show Steps p.tables e below (s₁.setTop (mkF m 26 _ [])) _
          refine XS.iconst X0.here hx rfl (hb hby d2_26) ?_
          show Steps p.tables e below (s₁.setTop (mkF m 27 _ [(.int (0 : Int32))])) _
          refine XS.istore X0.here hx rfl (hb hby d2_27) rfl (l' := #[.val (.long q1), .second, .val (.long q2), .second, .val (.int (0 : Int32))]) rfl ?_
          show Steps p.tables e below (s₁.setTop (mkF m 29 _ [])) _
          refine XS.goto X0.here hx rfl (pc0 := 29) (pc' := 67) rfl (hb hby d2_29) (by decide) (by decide) ?_
          show Steps p.tables e below (s₁.setTop (mkF m 67 _ [])) _
          refine XS.iload X0.here hx rfl (hb hby d2_67) rfl ?_
          show Steps p.tables e below (s₁.setTop (mkF m 69 _ [(.int (0 : Int32))])) _
          refine XS.ifNo X0.here hx rfl (hb hby d2_69) rfl ((if0 _ _).trans (teq (by decide)).2) ?_
          show Steps p.tables e below (s₁.setTop (mkF m 72 _ [])) _
          refine X0.ldc2Long hx hown (mvT hZ (hw _ (List.mem_of_getElem? (i := 0) rfl))) (g := (mkF m 72 #[.val (.long q1), .second, .val (.long q2), .second, .val (.int (0 : Int32))] [])) rfl (hb hby d2_72) _ ?_
          show Steps p.tables e below (s₁.setTop (mkF m 75 #[.val (.long q1), .second, .val (.long q2), .second, .val (.int (0 : Int32))] [(.long (-9223372036854775808 : Int64))])) _
          exact X0.lreturnOut hx Bd.returns (hb hby d2_75) hr
        · show Q2 Z q1 q2 h0 n0 _ s₁.heap _
          rw [e0]
          exact ⟨congrArg (fun z => some (Value.long z)) (by rw [f2, if_neg hc4, if_neg hc10, if_pos hc12] : f2 q1 q2 = (-9223372036854775808 : Int64)).symm, N0, rfl⟩
      · skip
        obtain ⟨fs, hr, hrun, hended, hW, hsame⟩ := X0.leave (v := some (.long (q1 + q2))) (fun h => by rw [Bd.returns] at h; cases h) (by first | exact BodyLoose.notSynchronized Bd | exact Body.notSynchronized Bd)
        refine ⟨_, _, pre11 _ ?_, hrun, hended, _, _, rfl, ?_, ⟨_, rfl⟩, hW, hsame.mono (by decide) (by decide)⟩
        · show Steps p.tables e below (s₁.setTop (mkF m 19 #[.val (.long q1), .second, .val (.long q2), .second, .unset] [(.int (lcmpW q1 ((9223372036854775807 : Int64) - q2)))])) _
          refine XS.ifNo X0.here hx rfl (hb hby d2_19) rfl ((if0 _ _).trans (flt (mt (lw_gt _ _).mp hc12)).2.2.1) ?_
          show Steps p.tables e below (s₁.setTop (mkF m 22 _ [])) _
          refine XS.iconst X0.here hx rfl (hb hby d2_22) ?_
          show Steps p.tables e below (s₁.setTop (mkF m 23 _ [(.int (1 : Int32))])) _
          refine XS.goto X0.here hx rfl (pc0 := 23) (pc' := 27) rfl (hb hby d2_23) (by decide) (by decide) ?_
          show Steps p.tables e below (s₁.setTop (mkF m 27 _ [(.int (1 : Int32))])) _
          refine XS.istore X0.here hx rfl (hb hby d2_27) rfl (l' := #[.val (.long q1), .second, .val (.long q2), .second, .val (.int (1 : Int32))]) rfl ?_
          show Steps p.tables e below (s₁.setTop (mkF m 29 _ [])) _
          refine XS.goto X0.here hx rfl (pc0 := 29) (pc' := 67) rfl (hb hby d2_29) (by decide) (by decide) ?_
          show Steps p.tables e below (s₁.setTop (mkF m 67 _ [])) _
          refine XS.iload X0.here hx rfl (hb hby d2_67) rfl ?_
          show Steps p.tables e below (s₁.setTop (mkF m 69 _ [(.int (1 : Int32))])) _
          refine XS.ifYes X0.here hx rfl (pc0 := 69) (pc' := 76) rfl (hb hby d2_69) rfl ((if0 _ _).trans (feq (by decide)).2) (by decide) (by decide) ?_
          show Steps p.tables e below (s₁.setTop (mkF m 76 _ [])) _
          refine XS.lloadN X0.here hx rfl (hb hby d2_76) rfl ?_
          show Steps p.tables e below (s₁.setTop (mkF m 77 _ [(.long q1)])) _
          refine XS.lloadN X0.here hx rfl (hb hby d2_77) rfl ?_
          show Steps p.tables e below (s₁.setTop (mkF m 78 _ [(.long q2), (.long q1)])) _
          refine XS.ladd X0.here hx rfl (hb hby d2_78) rfl ?_
          show Steps p.tables e below (s₁.setTop (mkF m 79 #[.val (.long q1), .second, .val (.long q2), .second, .val (.int (1 : Int32))] [(.long (q1 + q2))])) _
          exact X0.lreturnOut hx Bd.returns (hb hby d2_79) hr
        · show Q2 Z q1 q2 h0 n0 _ s₁.heap _
          rw [e0]
          exact ⟨congrArg (fun z => some (Value.long z)) (by rw [f2, if_neg hc4, if_neg hc10, if_neg hc12] : f2 q1 q2 = (q1 + q2)).symm, N0, rfl⟩
theorem pn_0 : plainName "com/example/creditree/creditree/MoneyPlusCentsPinLaw" = true := by first | (simp [plainName, overriddenIn]; done) | decide +kernel
theorem pd_0_0 : parseMethodDescriptor "(JJ)J" = some ⟨[.long, .long], some .long⟩ := by decide +kernel
theorem ef_0 (m : MethodId) (x0 : Int64) (x1 : Int64) (x2 : Int32) : entryFrame m #[(.long x0), (.long x1), (.int x2)] maxLocals = mkF m 0 #[.val (.long x0), .second, .val (.long x1), .second, .val (.int x2), .unset, .unset, .unset, .unset, .unset] [] := by first | (simp [entryFrame, mkF, argsToLocals, Value.category, maxLocals]; done) | rfl
def f0 (q1 : Int64) (q2 : Int64) (p3 : Int32) : Int32 := (if (p3 &&& (3 : Int32)) = (1 : Int32) then (if q1 = (-9223372036854775808 : Int64) then (1 : Int32) else (if (((9223372036854775807 : Int64) - q1) + ((((p3 >>> ((2 : Int32) &&& 31)) &&& (3 : Int32)).toInt64) - (1 : Int64))) = (-9223372036854775808 : Int64) then (1 : Int32) else (if (f1 q1 (((9223372036854775807 : Int64) - q1) + ((((p3 >>> ((2 : Int32) &&& 31)) &&& (3 : Int32)).toInt64) - (1 : Int64)))) = (f2 q1 (((9223372036854775807 : Int64) - q1) + ((((p3 >>> ((2 : Int32) &&& 31)) &&& (3 : Int32)).toInt64) - (1 : Int64)))) then (1 : Int32) else (0 : Int32)))) else (if (p3 &&& (3 : Int32)) = (2 : Int32) then (if q1 = (-9223372036854775808 : Int64) then (1 : Int32) else (if (((-9223372036854775808 : Int64) - q1) + ((((p3 >>> ((2 : Int32) &&& 31)) &&& (3 : Int32)).toInt64) - (1 : Int64))) = (-9223372036854775808 : Int64) then (1 : Int32) else (if (f1 q1 (((-9223372036854775808 : Int64) - q1) + ((((p3 >>> ((2 : Int32) &&& 31)) &&& (3 : Int32)).toInt64) - (1 : Int64)))) = (f2 q1 (((-9223372036854775808 : Int64) - q1) + ((((p3 >>> ((2 : Int32) &&& 31)) &&& (3 : Int32)).toInt64) - (1 : Int64)))) then (1 : Int32) else (0 : Int32)))) else (if q1 = (-9223372036854775808 : Int64) then (1 : Int32) else (if q2 = (-9223372036854775808 : Int64) then (1 : Int32) else (if (f1 q1 q2) = (f2 q1 q2) then (1 : Int32) else (0 : Int32))))))
def Q0 (Z : State) (q1 : Int64) (q2 : Int64) (p3 : Int32) (h0 : Heap) (n0 : Nat) (v : Option Value) (h : Heap) (L : List Loc) : Prop := v = some (.int (f0 q1 q2 p3)) ∧ Fr n0 L
set_option maxRecDepth 65536 in
set_option maxHeartbeats 40000000 in
theorem rm0 (l : Launch) (Z : State) (a0 : Array Value) (hw : ∀ d ∈ tables_1, d.before a0 Z = true) (ws : List Jvm.Cond) (q1 : Int64) (q2 : Int64) (p3 : Int32) (h0 : Heap) (n0 : Nat) (Z0 : n0 ≤ h0.size) :
    MetFree l x (head1 (Jvm.Cond.code x code maxLocals ret :: ws) room_1) (fun a U => a = #[(.long q1), (.long q2), (.int p3)] ∧ Z.Warmed39 U.vm ∧ U.heap = h0) (fun _ _ _ _ _ => True) (fun _ U o U' => ∃ v L, o = .returned v ∧ Q0 Z q1 q2 p3 h0 n0 v U'.heap L ∧ FrameEnd U o U' L room_1.cells room_1.slots) := by
  refine MetFree.of_bodySF (plainFor_of_name pn_0) hisR ?_
  intro p e s m args below meth c s₁ Bd hml0 hP hK
  obtain ⟨rfl, hZ, hh⟩ := hP
  have hx := Bd.exec
  have hby := Bd.bytes
  have hml : c.maxLocals = 10 := hml0
  have hown : s.vm.findClass "com/example/creditree/creditree/MoneyPlusCentsPinLaw" = some m.cls := findClass_of_methodNamed Bd.named
  have hnm := (name_of_methodNamed Bd.named Bd.method).1
  have X0 : Stand p l e room_1 s m #[(.long q1), (.long q2), (.int p3)] below meth c s₁ [] 0 0 := Stand.of_body Bd
  have e0 : s₁.heap = h0 := by rw [← hh, Bd.state]; rfl
  have N0 := Fr.nil n0
  have pre0 : ∀ t, Steps p.tables e below (s₁.setTop (mkF m 0 #[.val (.long q1), .second, .val (.long q2), .second, .val (.int p3), .unset, .unset, .unset, .unset, .unset] [])) t → Steps p.tables e below (s₁.setTop (entryFrame m #[(.long q1), (.long q2), (.int p3)] maxLocals)) t := fun t k => castTop (ef_0 m q1 q2 p3) k
  have pre4 : ∀ t, Steps p.tables e below (s₁.setTop (mkF m 23 #[.val (.long q1), .second, .val (.long q2), .second, .val (.int p3), .val (.int (p3 &&& (3 : Int32))), .val (.long ((((p3 >>> ((2 : Int32) &&& 31)) &&& (3 : Int32)).toInt64) - (1 : Int64))), .second, .val (.long q2), .second] [(.int (1 : Int32)), (.int (p3 &&& (3 : Int32)))])) t → Steps p.tables e below (s₁.setTop (entryFrame m #[(.long q1), (.long q2), (.int p3)] maxLocals)) t := fun t kt => by
    refine pre0 _ ?_
    show Steps p.tables e below (s₁.setTop (mkF m 0 #[.val (.long q1), .second, .val (.long q2), .second, .val (.int p3), .unset, .unset, .unset, .unset, .unset] [])) _
    refine XS.iload X0.here hx rfl (hb hby at_0) rfl ?_
    show Steps p.tables e below (s₁.setTop (mkF m 2 _ [(.int p3)])) _
    refine XS.iconst X0.here hx rfl (hb hby at_2) ?_
    show Steps p.tables e below (s₁.setTop (mkF m 3 _ [(.int (3 : Int32)), (.int p3)])) _
    refine XS.iand X0.here hx rfl (hb hby at_3) rfl ?_
    show Steps p.tables e below (s₁.setTop (mkF m 4 _ [(.int (p3 &&& (3 : Int32)))])) _
    refine XS.istore X0.here hx rfl (hb hby at_4) rfl (l' := #[.val (.long q1), .second, .val (.long q2), .second, .val (.int p3), .val (.int (p3 &&& (3 : Int32))), .unset, .unset, .unset, .unset]) rfl ?_
    show Steps p.tables e below (s₁.setTop (mkF m 6 _ [])) _
    refine XS.iload X0.here hx rfl (hb hby at_6) rfl ?_
    show Steps p.tables e below (s₁.setTop (mkF m 8 _ [(.int p3)])) _
    refine XS.iconst X0.here hx rfl (hb hby at_8) ?_
    show Steps p.tables e below (s₁.setTop (mkF m 9 _ [(.int (2 : Int32)), (.int p3)])) _
    refine XS.ishr X0.here hx rfl (hb hby at_9) rfl ?_
    show Steps p.tables e below (s₁.setTop (mkF m 10 _ [(.int (p3 >>> ((2 : Int32) &&& 31)))])) _
    refine XS.iconst X0.here hx rfl (hb hby at_10) ?_
    show Steps p.tables e below (s₁.setTop (mkF m 11 _ [(.int (3 : Int32)), (.int (p3 >>> ((2 : Int32) &&& 31)))])) _
    refine XS.iand X0.here hx rfl (hb hby at_11) rfl ?_
    show Steps p.tables e below (s₁.setTop (mkF m 12 _ [(.int ((p3 >>> ((2 : Int32) &&& 31)) &&& (3 : Int32)))])) _
    refine XS.i2l X0.here hx rfl (hb hby at_12) rfl ?_
    show Steps p.tables e below (s₁.setTop (mkF m 13 _ [(.long (((p3 >>> ((2 : Int32) &&& 31)) &&& (3 : Int32)).toInt64))])) _
    refine XS.lconst X0.here hx rfl (hb hby at_13) ?_
    show Steps p.tables e below (s₁.setTop (mkF m 14 _ [(.long (1 : Int64)), (.long (((p3 >>> ((2 : Int32) &&& 31)) &&& (3 : Int32)).toInt64))])) _
    refine XS.lsub X0.here hx rfl (hb hby at_14) rfl ?_
    show Steps p.tables e below (s₁.setTop (mkF m 15 _ [(.long ((((p3 >>> ((2 : Int32) &&& 31)) &&& (3 : Int32)).toInt64) - (1 : Int64)))])) _
    refine XS.lstore X0.here hx rfl (hb hby at_15) rfl (l' := #[.val (.long q1), .second, .val (.long q2), .second, .val (.int p3), .val (.int (p3 &&& (3 : Int32))), .val (.long ((((p3 >>> ((2 : Int32) &&& 31)) &&& (3 : Int32)).toInt64) - (1 : Int64))), .second, .unset, .unset]) rfl ?_
    show Steps p.tables e below (s₁.setTop (mkF m 17 _ [])) _
    refine XS.lloadN X0.here hx rfl (hb hby at_17) rfl ?_
    show Steps p.tables e below (s₁.setTop (mkF m 18 _ [(.long q2)])) _
    refine XS.lstore X0.here hx rfl (hb hby at_18) rfl (l' := #[.val (.long q1), .second, .val (.long q2), .second, .val (.int p3), .val (.int (p3 &&& (3 : Int32))), .val (.long ((((p3 >>> ((2 : Int32) &&& 31)) &&& (3 : Int32)).toInt64) - (1 : Int64))), .second, .val (.long q2), .second]) rfl ?_
    show Steps p.tables e below (s₁.setTop (mkF m 20 _ [])) _
    refine XS.iload X0.here hx rfl (hb hby at_20) rfl ?_
    show Steps p.tables e below (s₁.setTop (mkF m 22 _ [(.int (p3 &&& (3 : Int32)))])) _
    refine XS.iconst X0.here hx rfl (hb hby at_22) ?_
    exact kt
  by_cases hc5 : (p3 &&& (3 : Int32)) = (1 : Int32)
  · skip
    have pre6 : ∀ t, Steps p.tables e below (s₁.setTop (mkF m 60 #[.val (.long q1), .second, .val (.long q2), .second, .val (.int p3), .val (.int (p3 &&& (3 : Int32))), .val (.long ((((p3 >>> ((2 : Int32) &&& 31)) &&& (3 : Int32)).toInt64) - (1 : Int64))), .second, .val (.long (((9223372036854775807 : Int64) - q1) + ((((p3 >>> ((2 : Int32) &&& 31)) &&& (3 : Int32)).toInt64) - (1 : Int64)))), .second] [(.int (lcmpW q1 (-9223372036854775808 : Int64)))])) t → Steps p.tables e below (s₁.setTop (entryFrame m #[(.long q1), (.long q2), (.int p3)] maxLocals)) t := fun t kt => by
      refine pre4 _ ?_
      show Steps p.tables e below (s₁.setTop (mkF m 23 #[.val (.long q1), .second, .val (.long q2), .second, .val (.int p3), .val (.int (p3 &&& (3 : Int32))), .val (.long ((((p3 >>> ((2 : Int32) &&& 31)) &&& (3 : Int32)).toInt64) - (1 : Int64))), .second, .val (.long q2), .second] [(.int (1 : Int32)), (.int (p3 &&& (3 : Int32)))])) _
      refine XS.icmpNo X0.here hx rfl (hb hby at_23) rfl (teq hc5).2 ?_
      show Steps p.tables e below (s₁.setTop (mkF m 26 _ [])) _
      refine X0.ldc2Long hx hown (mvT hZ (hw _ (List.mem_of_getElem? (i := 9) rfl))) (g := (mkF m 26 #[.val (.long q1), .second, .val (.long q2), .second, .val (.int p3), .val (.int (p3 &&& (3 : Int32))), .val (.long ((((p3 >>> ((2 : Int32) &&& 31)) &&& (3 : Int32)).toInt64) - (1 : Int64))), .second, .val (.long q2), .second] [])) rfl (hb hby at_26) _ ?_
      show Steps p.tables e below (s₁.setTop (mkF m 29 _ [(.long (9223372036854775807 : Int64))])) _
      refine XS.lloadN X0.here hx rfl (hb hby at_29) rfl ?_
      show Steps p.tables e below (s₁.setTop (mkF m 30 _ [(.long q1), (.long (9223372036854775807 : Int64))])) _
      refine XS.lsub X0.here hx rfl (hb hby at_30) rfl ?_
      show Steps p.tables e below (s₁.setTop (mkF m 31 _ [(.long ((9223372036854775807 : Int64) - q1))])) _
      refine XS.lload X0.here hx rfl (hb hby at_31) rfl ?_
      show Steps p.tables e below (s₁.setTop (mkF m 33 _ [(.long ((((p3 >>> ((2 : Int32) &&& 31)) &&& (3 : Int32)).toInt64) - (1 : Int64))), (.long ((9223372036854775807 : Int64) - q1))])) _
      refine XS.ladd X0.here hx rfl (hb hby at_33) rfl ?_
      show Steps p.tables e below (s₁.setTop (mkF m 34 _ [(.long (((9223372036854775807 : Int64) - q1) + ((((p3 >>> ((2 : Int32) &&& 31)) &&& (3 : Int32)).toInt64) - (1 : Int64))))])) _
      refine XS.lstore X0.here hx rfl (hb hby at_34) rfl (l' := #[.val (.long q1), .second, .val (.long q2), .second, .val (.int p3), .val (.int (p3 &&& (3 : Int32))), .val (.long ((((p3 >>> ((2 : Int32) &&& 31)) &&& (3 : Int32)).toInt64) - (1 : Int64))), .second, .val (.long (((9223372036854775807 : Int64) - q1) + ((((p3 >>> ((2 : Int32) &&& 31)) &&& (3 : Int32)).toInt64) - (1 : Int64)))), .second]) rfl ?_
      show Steps p.tables e below (s₁.setTop (mkF m 36 _ [])) _
      refine XS.goto X0.here hx rfl (pc0 := 36) (pc' := 55) rfl (hb hby at_36) (by decide) (by decide) ?_
      show Steps p.tables e below (s₁.setTop (mkF m 55 _ [])) _
      refine XS.lloadN X0.here hx rfl (hb hby at_55) rfl ?_
      show Steps p.tables e below (s₁.setTop (mkF m 56 _ [(.long q1)])) _
      refine X0.ldc2Long hx hown (mvT hZ (hw _ (List.mem_of_getElem? (i := 0) rfl))) (g := (mkF m 56 #[.val (.long q1), .second, .val (.long q2), .second, .val (.int p3), .val (.int (p3 &&& (3 : Int32))), .val (.long ((((p3 >>> ((2 : Int32) &&& 31)) &&& (3 : Int32)).toInt64) - (1 : Int64))), .second, .val (.long (((9223372036854775807 : Int64) - q1) + ((((p3 >>> ((2 : Int32) &&& 31)) &&& (3 : Int32)).toInt64) - (1 : Int64)))), .second] [(.long q1)])) rfl (hb hby at_56) _ ?_
      show Steps p.tables e below (s₁.setTop (mkF m 59 _ [(.long (-9223372036854775808 : Int64)), (.long q1)])) _
      refine XS.lcmp X0.here hx rfl (hb hby at_59) rfl ?_
      exact kt
    by_cases hc7 : q1 = (-9223372036854775808 : Int64)
    · skip
      obtain ⟨fs, hr, hrun, hended, hW, hsame⟩ := X0.leave (v := some (.int (1 : Int32))) (fun h => by rw [Bd.returns] at h; cases h) (by first | exact BodyLoose.notSynchronized Bd | exact Body.notSynchronized Bd)
      refine ⟨_, _, pre6 _ ?_, hrun, hended, _, _, rfl, ?_, ⟨_, rfl⟩, hW, hsame.mono (by decide) (by decide)⟩
      · show Steps p.tables e below (s₁.setTop (mkF m 60 #[.val (.long q1), .second, .val (.long q2), .second, .val (.int p3), .val (.int (p3 &&& (3 : Int32))), .val (.long ((((p3 >>> ((2 : Int32) &&& 31)) &&& (3 : Int32)).toInt64) - (1 : Int64))), .second, .val (.long (((9223372036854775807 : Int64) - q1) + ((((p3 >>> ((2 : Int32) &&& 31)) &&& (3 : Int32)).toInt64) - (1 : Int64)))), .second] [(.int (lcmpW q1 (-9223372036854775808 : Int64)))])) _
        refine XS.ifYes X0.here hx rfl (pc0 := 60) (pc' := 72) rfl (hb hby at_60) rfl ((if0 _ _).trans (teq ((lw_eq _ _).mpr hc7)).1) (by decide) (by decide) ?_
        show Steps p.tables e below (s₁.setTop (mkF m 72 _ [])) _
        refine XS.iconst X0.here hx rfl (hb hby at_72) ?_
        show Steps p.tables e below (s₁.setTop (mkF m 73 #[.val (.long q1), .second, .val (.long q2), .second, .val (.int p3), .val (.int (p3 &&& (3 : Int32))), .val (.long ((((p3 >>> ((2 : Int32) &&& 31)) &&& (3 : Int32)).toInt64) - (1 : Int64))), .second, .val (.long (((9223372036854775807 : Int64) - q1) + ((((p3 >>> ((2 : Int32) &&& 31)) &&& (3 : Int32)).toInt64) - (1 : Int64)))), .second] [(.int (1 : Int32))])) _
        exact retN X0 hx (t := .boolean) Bd.returns (by simp) (hb hby at_73) hr
      · show Q0 Z q1 q2 p3 h0 n0 _ s₁.heap _
        rw [e0]
        exact ⟨congrArg (fun z => some (Value.int z)) (by rw [f0, if_pos hc5, if_pos hc7] : f0 q1 q2 p3 = (1 : Int32)).symm, N0⟩
    · skip
      have pre8 : ∀ t, Steps p.tables e below (s₁.setTop (mkF m 69 #[.val (.long q1), .second, .val (.long q2), .second, .val (.int p3), .val (.int (p3 &&& (3 : Int32))), .val (.long ((((p3 >>> ((2 : Int32) &&& 31)) &&& (3 : Int32)).toInt64) - (1 : Int64))), .second, .val (.long (((9223372036854775807 : Int64) - q1) + ((((p3 >>> ((2 : Int32) &&& 31)) &&& (3 : Int32)).toInt64) - (1 : Int64)))), .second] [(.int (lcmpW (((9223372036854775807 : Int64) - q1) + ((((p3 >>> ((2 : Int32) &&& 31)) &&& (3 : Int32)).toInt64) - (1 : Int64))) (-9223372036854775808 : Int64)))])) t → Steps p.tables e below (s₁.setTop (entryFrame m #[(.long q1), (.long q2), (.int p3)] maxLocals)) t := fun t kt => by
        refine pre6 _ ?_
        show Steps p.tables e below (s₁.setTop (mkF m 60 #[.val (.long q1), .second, .val (.long q2), .second, .val (.int p3), .val (.int (p3 &&& (3 : Int32))), .val (.long ((((p3 >>> ((2 : Int32) &&& 31)) &&& (3 : Int32)).toInt64) - (1 : Int64))), .second, .val (.long (((9223372036854775807 : Int64) - q1) + ((((p3 >>> ((2 : Int32) &&& 31)) &&& (3 : Int32)).toInt64) - (1 : Int64)))), .second] [(.int (lcmpW q1 (-9223372036854775808 : Int64)))])) _
        refine XS.ifNo X0.here hx rfl (hb hby at_60) rfl ((if0 _ _).trans (feq (mt (lw_eq _ _).mp hc7)).1) ?_
        show Steps p.tables e below (s₁.setTop (mkF m 63 _ [])) _
        refine XS.lload X0.here hx rfl (hb hby at_63) rfl ?_
        show Steps p.tables e below (s₁.setTop (mkF m 65 _ [(.long (((9223372036854775807 : Int64) - q1) + ((((p3 >>> ((2 : Int32) &&& 31)) &&& (3 : Int32)).toInt64) - (1 : Int64))))])) _
        refine X0.ldc2Long hx hown (mvT hZ (hw _ (List.mem_of_getElem? (i := 0) rfl))) (g := (mkF m 65 #[.val (.long q1), .second, .val (.long q2), .second, .val (.int p3), .val (.int (p3 &&& (3 : Int32))), .val (.long ((((p3 >>> ((2 : Int32) &&& 31)) &&& (3 : Int32)).toInt64) - (1 : Int64))), .second, .val (.long (((9223372036854775807 : Int64) - q1) + ((((p3 >>> ((2 : Int32) &&& 31)) &&& (3 : Int32)).toInt64) - (1 : Int64)))), .second] [(.long (((9223372036854775807 : Int64) - q1) + ((((p3 >>> ((2 : Int32) &&& 31)) &&& (3 : Int32)).toInt64) - (1 : Int64))))])) rfl (hb hby at_65) _ ?_
        show Steps p.tables e below (s₁.setTop (mkF m 68 _ [(.long (-9223372036854775808 : Int64)), (.long (((9223372036854775807 : Int64) - q1) + ((((p3 >>> ((2 : Int32) &&& 31)) &&& (3 : Int32)).toInt64) - (1 : Int64))))])) _
        refine XS.lcmp X0.here hx rfl (hb hby at_68) rfl ?_
        exact kt
      by_cases hc9 : (((9223372036854775807 : Int64) - q1) + ((((p3 >>> ((2 : Int32) &&& 31)) &&& (3 : Int32)).toInt64) - (1 : Int64))) = (-9223372036854775808 : Int64)
      · skip
        obtain ⟨fs, hr, hrun, hended, hW, hsame⟩ := X0.leave (v := some (.int (1 : Int32))) (fun h => by rw [Bd.returns] at h; cases h) (by first | exact BodyLoose.notSynchronized Bd | exact Body.notSynchronized Bd)
        refine ⟨_, _, pre8 _ ?_, hrun, hended, _, _, rfl, ?_, ⟨_, rfl⟩, hW, hsame.mono (by decide) (by decide)⟩
        · show Steps p.tables e below (s₁.setTop (mkF m 69 #[.val (.long q1), .second, .val (.long q2), .second, .val (.int p3), .val (.int (p3 &&& (3 : Int32))), .val (.long ((((p3 >>> ((2 : Int32) &&& 31)) &&& (3 : Int32)).toInt64) - (1 : Int64))), .second, .val (.long (((9223372036854775807 : Int64) - q1) + ((((p3 >>> ((2 : Int32) &&& 31)) &&& (3 : Int32)).toInt64) - (1 : Int64)))), .second] [(.int (lcmpW (((9223372036854775807 : Int64) - q1) + ((((p3 >>> ((2 : Int32) &&& 31)) &&& (3 : Int32)).toInt64) - (1 : Int64))) (-9223372036854775808 : Int64)))])) _
          refine XS.ifNo X0.here hx rfl (hb hby at_69) rfl ((if0 _ _).trans (teq ((lw_eq _ _).mpr hc9)).2) ?_
          show Steps p.tables e below (s₁.setTop (mkF m 72 _ [])) _
          refine XS.iconst X0.here hx rfl (hb hby at_72) ?_
          show Steps p.tables e below (s₁.setTop (mkF m 73 #[.val (.long q1), .second, .val (.long q2), .second, .val (.int p3), .val (.int (p3 &&& (3 : Int32))), .val (.long ((((p3 >>> ((2 : Int32) &&& 31)) &&& (3 : Int32)).toInt64) - (1 : Int64))), .second, .val (.long (((9223372036854775807 : Int64) - q1) + ((((p3 >>> ((2 : Int32) &&& 31)) &&& (3 : Int32)).toInt64) - (1 : Int64)))), .second] [(.int (1 : Int32))])) _
          exact retN X0 hx (t := .boolean) Bd.returns (by simp) (hb hby at_73) hr
        · show Q0 Z q1 q2 p3 h0 n0 _ s₁.heap _
          rw [e0]
          exact ⟨congrArg (fun z => some (Value.int z)) (by rw [f0, if_pos hc5, if_neg hc7, if_pos hc9] : f0 q1 q2 p3 = (1 : Int32)).symm, N0⟩
      · skip
        obtain ⟨_, _, ⟨T10, L10, k10, n10⟩, -, X10, ⟨Lc10, hQ10, l10, y10, z10⟩, st10⟩ := Jvm.LawKit.callS X0 hx (y := (⟨"com/example/creditree/creditree/Money", "plusCents", "(JJ)J"⟩ : MethodName)) hown (mvT hZ (hw _ (List.mem_of_getElem? (i := 1) rfl))) (mvT hZ (hw _ (List.mem_of_getElem? (i := 2) rfl))) (mvT hZ (hw _ (List.mem_of_getElem? (i := 3) rfl))) (mvT hZ (hw _ (List.mem_of_getElem? (i := 4) rfl))) (by decide) (backOf (W := 0) (rm1 l Z a0 hw [] q1 (((9223372036854775807 : Int64) - q1) + ((((p3 >>> ((2 : Int32) &&& 31)) &&& (3 : Int32)).toInt64) - (1 : Int64))) h0 n0 Z0 ) hZ (hw _ (List.mem_of_getElem? (i := 4) rfl)) (hw _ (List.mem_of_getElem? (i := 3) rfl)) (by decide) (by decide)) (g := (mkF m 77 #[.val (.long q1), .second, .val (.long q2), .second, .val (.int p3), .val (.int (p3 &&& (3 : Int32))), .val (.long ((((p3 >>> ((2 : Int32) &&& 31)) &&& (3 : Int32)).toInt64) - (1 : Int64))), .second, .val (.long (((9223372036854775807 : Int64) - q1) + ((((p3 >>> ((2 : Int32) &&& 31)) &&& (3 : Int32)).toInt64) - (1 : Int64)))), .second] [(.long (((9223372036854775807 : Int64) - q1) + ((((p3 >>> ((2 : Int32) &&& 31)) &&& (3 : Int32)).toInt64) - (1 : Int64)))), (.long q1)])) rfl (by rw [hml]; rfl) (argsL := [(.long q1), (.long (((9223372036854775807 : Int64) - q1) + ((((p3 >>> ((2 : Int32) &&& 31)) &&& (3 : Int32)).toInt64) - (1 : Int64))))]) (rest := []) (lenOf pd_0_0 rfl) rfl (by show 2 * 0 + _ ≤ _; exact Nat.le_of_eq rfl) (hb hby at_77) (fun _ _ => ⟨rfl, e0, (by decide : 0 + 0 ≤ _), (by decide : 0 + 0 ≤ _)⟩)
        dsimp only [Pt.U, Pt.locs, Pt.cells, Pt.slots] at X10 l10 y10 z10 st10 hQ10
        subst l10 y10 z10
        obtain ⟨rfl, N10q, e10⟩ := hQ10
        have N10 := Fr.app N0 N10q
        obtain ⟨_, _, ⟨T11, L11, k11, n11⟩, -, X11, ⟨Lc11, hQ11, l11, y11, z11⟩, st11⟩ := Jvm.LawKit.callS X10 hx (y := (⟨"com/example/creditree/creditree/MoneyPlusCentsPinLaw", "expected", "(JJ)J"⟩ : MethodName)) hown (mvT hZ (hw _ (List.mem_of_getElem? (i := 5) rfl))) (mvT hZ (hw _ (List.mem_of_getElem? (i := 6) rfl))) (mvT hZ (hw _ (List.mem_of_getElem? (i := 7) rfl))) (mvT hZ (hw _ (List.mem_of_getElem? (i := 8) rfl))) (by decide) (backOf (W := 2) (rm2 l Z a0 hw [] q1 (((9223372036854775807 : Int64) - q1) + ((((p3 >>> ((2 : Int32) &&& 31)) &&& (3 : Int32)).toInt64) - (1 : Int64))) h0 n0 Z0 ) hZ (hw _ (List.mem_of_getElem? (i := 8) rfl)) (hw _ (List.mem_of_getElem? (i := 7) rfl)) (by decide) (by decide)) (g := (mkF m 83 #[.val (.long q1), .second, .val (.long q2), .second, .val (.int p3), .val (.int (p3 &&& (3 : Int32))), .val (.long ((((p3 >>> ((2 : Int32) &&& 31)) &&& (3 : Int32)).toInt64) - (1 : Int64))), .second, .val (.long (((9223372036854775807 : Int64) - q1) + ((((p3 >>> ((2 : Int32) &&& 31)) &&& (3 : Int32)).toInt64) - (1 : Int64)))), .second] [(.long (((9223372036854775807 : Int64) - q1) + ((((p3 >>> ((2 : Int32) &&& 31)) &&& (3 : Int32)).toInt64) - (1 : Int64)))), (.long q1), (.long (f1 q1 (((9223372036854775807 : Int64) - q1) + ((((p3 >>> ((2 : Int32) &&& 31)) &&& (3 : Int32)).toInt64) - (1 : Int64)))))])) rfl (by rw [hml]; rfl) (argsL := [(.long q1), (.long (((9223372036854775807 : Int64) - q1) + ((((p3 >>> ((2 : Int32) &&& 31)) &&& (3 : Int32)).toInt64) - (1 : Int64))))]) (rest := [(.long (f1 q1 (((9223372036854775807 : Int64) - q1) + ((((p3 >>> ((2 : Int32) &&& 31)) &&& (3 : Int32)).toInt64) - (1 : Int64)))))]) (lenOf pd_0_0 rfl) rfl (by show 2 * 0 + _ ≤ _; exact Nat.le_of_eq rfl) (hb hby at_83) (fun _ _ => ⟨rfl, e10, (by decide : 0 + 0 ≤ _), (by decide : 0 + 0 ≤ _)⟩)
        dsimp only [Pt.U, Pt.locs, Pt.cells, Pt.slots] at X11 l11 y11 z11 st11 hQ11
        subst l11 y11 z11
        obtain ⟨rfl, N11q, e11⟩ := hQ11
        have N11 := Fr.app N10 N11q
        have pre12 : ∀ t, Steps p.tables e below (T11.setTop (mkF m 87 #[.val (.long q1), .second, .val (.long q2), .second, .val (.int p3), .val (.int (p3 &&& (3 : Int32))), .val (.long ((((p3 >>> ((2 : Int32) &&& 31)) &&& (3 : Int32)).toInt64) - (1 : Int64))), .second, .val (.long (((9223372036854775807 : Int64) - q1) + ((((p3 >>> ((2 : Int32) &&& 31)) &&& (3 : Int32)).toInt64) - (1 : Int64)))), .second] [(.int (lcmpW (f1 q1 (((9223372036854775807 : Int64) - q1) + ((((p3 >>> ((2 : Int32) &&& 31)) &&& (3 : Int32)).toInt64) - (1 : Int64)))) (f2 q1 (((9223372036854775807 : Int64) - q1) + ((((p3 >>> ((2 : Int32) &&& 31)) &&& (3 : Int32)).toInt64) - (1 : Int64))))))])) t → Steps p.tables e below (s₁.setTop (entryFrame m #[(.long q1), (.long q2), (.int p3)] maxLocals)) t := fun t kt => by
          refine pre8 _ ?_
          show Steps p.tables e below (s₁.setTop (mkF m 69 #[.val (.long q1), .second, .val (.long q2), .second, .val (.int p3), .val (.int (p3 &&& (3 : Int32))), .val (.long ((((p3 >>> ((2 : Int32) &&& 31)) &&& (3 : Int32)).toInt64) - (1 : Int64))), .second, .val (.long (((9223372036854775807 : Int64) - q1) + ((((p3 >>> ((2 : Int32) &&& 31)) &&& (3 : Int32)).toInt64) - (1 : Int64)))), .second] [(.int (lcmpW (((9223372036854775807 : Int64) - q1) + ((((p3 >>> ((2 : Int32) &&& 31)) &&& (3 : Int32)).toInt64) - (1 : Int64))) (-9223372036854775808 : Int64)))])) _
          refine XS.ifYes X0.here hx rfl (pc0 := 69) (pc' := 74) rfl (hb hby at_69) rfl ((if0 _ _).trans (feq (mt (lw_eq _ _).mp hc9)).2) (by decide) (by decide) ?_
          show Steps p.tables e below (s₁.setTop (mkF m 74 _ [])) _
          refine XS.lloadN X0.here hx rfl (hb hby at_74) rfl ?_
          show Steps p.tables e below (s₁.setTop (mkF m 75 _ [(.long q1)])) _
          refine XS.lload X0.here hx rfl (hb hby at_75) rfl ?_
          show Steps p.tables e below (s₁.setTop (mkF m 77 _ [(.long (((9223372036854775807 : Int64) - q1) + ((((p3 >>> ((2 : Int32) &&& 31)) &&& (3 : Int32)).toInt64) - (1 : Int64)))), (.long q1)])) _
          refine st10 _ ?_
          show Steps p.tables e below (T10.setTop (mkF m 80 _ [(.long (f1 q1 (((9223372036854775807 : Int64) - q1) + ((((p3 >>> ((2 : Int32) &&& 31)) &&& (3 : Int32)).toInt64) - (1 : Int64)))))])) _
          refine XS.lloadN X10.here hx rfl (hb hby at_80) rfl ?_
          show Steps p.tables e below (T10.setTop (mkF m 81 _ [(.long q1), (.long (f1 q1 (((9223372036854775807 : Int64) - q1) + ((((p3 >>> ((2 : Int32) &&& 31)) &&& (3 : Int32)).toInt64) - (1 : Int64)))))])) _
          refine XS.lload X10.here hx rfl (hb hby at_81) rfl ?_
          show Steps p.tables e below (T10.setTop (mkF m 83 _ [(.long (((9223372036854775807 : Int64) - q1) + ((((p3 >>> ((2 : Int32) &&& 31)) &&& (3 : Int32)).toInt64) - (1 : Int64)))), (.long q1), (.long (f1 q1 (((9223372036854775807 : Int64) - q1) + ((((p3 >>> ((2 : Int32) &&& 31)) &&& (3 : Int32)).toInt64) - (1 : Int64)))))])) _
          refine st11 _ ?_
          show Steps p.tables e below (T11.setTop (mkF m 86 _ [(.long (f2 q1 (((9223372036854775807 : Int64) - q1) + ((((p3 >>> ((2 : Int32) &&& 31)) &&& (3 : Int32)).toInt64) - (1 : Int64))))), (.long (f1 q1 (((9223372036854775807 : Int64) - q1) + ((((p3 >>> ((2 : Int32) &&& 31)) &&& (3 : Int32)).toInt64) - (1 : Int64)))))])) _
          refine XS.lcmp X11.here hx rfl (hb hby at_86) rfl ?_
          exact kt
        by_cases hc13 : (f1 q1 (((9223372036854775807 : Int64) - q1) + ((((p3 >>> ((2 : Int32) &&& 31)) &&& (3 : Int32)).toInt64) - (1 : Int64)))) = (f2 q1 (((9223372036854775807 : Int64) - q1) + ((((p3 >>> ((2 : Int32) &&& 31)) &&& (3 : Int32)).toInt64) - (1 : Int64))))
        · skip
          obtain ⟨fs, hr, hrun, hended, hW, hsame⟩ := X11.leave (v := some (.int (1 : Int32))) (fun h => by rw [Bd.returns] at h; cases h) (by first | exact BodyLoose.notSynchronized Bd | exact Body.notSynchronized Bd)
          refine ⟨_, _, pre12 _ ?_, hrun, hended, _, _, rfl, ?_, ⟨_, rfl⟩, hW, hsame.mono (by decide) (by decide)⟩
          · show Steps p.tables e below (T11.setTop (mkF m 87 #[.val (.long q1), .second, .val (.long q2), .second, .val (.int p3), .val (.int (p3 &&& (3 : Int32))), .val (.long ((((p3 >>> ((2 : Int32) &&& 31)) &&& (3 : Int32)).toInt64) - (1 : Int64))), .second, .val (.long (((9223372036854775807 : Int64) - q1) + ((((p3 >>> ((2 : Int32) &&& 31)) &&& (3 : Int32)).toInt64) - (1 : Int64)))), .second] [(.int (lcmpW (f1 q1 (((9223372036854775807 : Int64) - q1) + ((((p3 >>> ((2 : Int32) &&& 31)) &&& (3 : Int32)).toInt64) - (1 : Int64)))) (f2 q1 (((9223372036854775807 : Int64) - q1) + ((((p3 >>> ((2 : Int32) &&& 31)) &&& (3 : Int32)).toInt64) - (1 : Int64))))))])) _
            refine XS.ifNo X11.here hx rfl (hb hby at_87) rfl ((if0 _ _).trans (teq ((lw_eq _ _).mpr hc13)).2) ?_
            show Steps p.tables e below (T11.setTop (mkF m 90 _ [])) _
            refine XS.iconst X11.here hx rfl (hb hby at_90) ?_
            show Steps p.tables e below (T11.setTop (mkF m 91 _ [(.int (1 : Int32))])) _
            refine XS.goto X11.here hx rfl (pc0 := 91) (pc' := 95) rfl (hb hby at_91) (by decide) (by decide) ?_
            show Steps p.tables e below (T11.setTop (mkF m 95 #[.val (.long q1), .second, .val (.long q2), .second, .val (.int p3), .val (.int (p3 &&& (3 : Int32))), .val (.long ((((p3 >>> ((2 : Int32) &&& 31)) &&& (3 : Int32)).toInt64) - (1 : Int64))), .second, .val (.long (((9223372036854775807 : Int64) - q1) + ((((p3 >>> ((2 : Int32) &&& 31)) &&& (3 : Int32)).toInt64) - (1 : Int64)))), .second] [(.int (1 : Int32))])) _
            exact retN X11 hx (t := .boolean) Bd.returns (by simp) (hb hby at_95) hr
          · show Q0 Z q1 q2 p3 h0 n0 _ T11.heap _
            rw [e11]
            exact ⟨congrArg (fun z => some (Value.int z)) (by rw [f0, if_pos hc5, if_neg hc7, if_neg hc9, if_pos hc13] : f0 q1 q2 p3 = (1 : Int32)).symm, N11⟩
        · skip
          obtain ⟨fs, hr, hrun, hended, hW, hsame⟩ := X11.leave (v := some (.int (0 : Int32))) (fun h => by rw [Bd.returns] at h; cases h) (by first | exact BodyLoose.notSynchronized Bd | exact Body.notSynchronized Bd)
          refine ⟨_, _, pre12 _ ?_, hrun, hended, _, _, rfl, ?_, ⟨_, rfl⟩, hW, hsame.mono (by decide) (by decide)⟩
          · show Steps p.tables e below (T11.setTop (mkF m 87 #[.val (.long q1), .second, .val (.long q2), .second, .val (.int p3), .val (.int (p3 &&& (3 : Int32))), .val (.long ((((p3 >>> ((2 : Int32) &&& 31)) &&& (3 : Int32)).toInt64) - (1 : Int64))), .second, .val (.long (((9223372036854775807 : Int64) - q1) + ((((p3 >>> ((2 : Int32) &&& 31)) &&& (3 : Int32)).toInt64) - (1 : Int64)))), .second] [(.int (lcmpW (f1 q1 (((9223372036854775807 : Int64) - q1) + ((((p3 >>> ((2 : Int32) &&& 31)) &&& (3 : Int32)).toInt64) - (1 : Int64)))) (f2 q1 (((9223372036854775807 : Int64) - q1) + ((((p3 >>> ((2 : Int32) &&& 31)) &&& (3 : Int32)).toInt64) - (1 : Int64))))))])) _
            refine XS.ifYes X11.here hx rfl (pc0 := 87) (pc' := 94) rfl (hb hby at_87) rfl ((if0 _ _).trans (feq (mt (lw_eq _ _).mp hc13)).2) (by decide) (by decide) ?_
            show Steps p.tables e below (T11.setTop (mkF m 94 _ [])) _
            refine XS.iconst X11.here hx rfl (hb hby at_94) ?_
            show Steps p.tables e below (T11.setTop (mkF m 95 #[.val (.long q1), .second, .val (.long q2), .second, .val (.int p3), .val (.int (p3 &&& (3 : Int32))), .val (.long ((((p3 >>> ((2 : Int32) &&& 31)) &&& (3 : Int32)).toInt64) - (1 : Int64))), .second, .val (.long (((9223372036854775807 : Int64) - q1) + ((((p3 >>> ((2 : Int32) &&& 31)) &&& (3 : Int32)).toInt64) - (1 : Int64)))), .second] [(.int (0 : Int32))])) _
            exact retN X11 hx (t := .boolean) Bd.returns (by simp) (hb hby at_95) hr
          · show Q0 Z q1 q2 p3 h0 n0 _ T11.heap _
            rw [e11]
            exact ⟨congrArg (fun z => some (Value.int z)) (by rw [f0, if_pos hc5, if_neg hc7, if_neg hc9, if_neg hc13] : f0 q1 q2 p3 = (0 : Int32)).symm, N11⟩
  · skip
    have pre14 : ∀ t, Steps p.tables e below (s₁.setTop (mkF m 42 #[.val (.long q1), .second, .val (.long q2), .second, .val (.int p3), .val (.int (p3 &&& (3 : Int32))), .val (.long ((((p3 >>> ((2 : Int32) &&& 31)) &&& (3 : Int32)).toInt64) - (1 : Int64))), .second, .val (.long q2), .second] [(.int (2 : Int32)), (.int (p3 &&& (3 : Int32)))])) t → Steps p.tables e below (s₁.setTop (entryFrame m #[(.long q1), (.long q2), (.int p3)] maxLocals)) t := fun t kt => by
      refine pre4 _ ?_
      show Steps p.tables e below (s₁.setTop (mkF m 23 #[.val (.long q1), .second, .val (.long q2), .second, .val (.int p3), .val (.int (p3 &&& (3 : Int32))), .val (.long ((((p3 >>> ((2 : Int32) &&& 31)) &&& (3 : Int32)).toInt64) - (1 : Int64))), .second, .val (.long q2), .second] [(.int (1 : Int32)), (.int (p3 &&& (3 : Int32)))])) _
      refine XS.icmpYes X0.here hx rfl (pc0 := 23) (pc' := 39) rfl (hb hby at_23) rfl (feq hc5).2 (by decide) (by decide) ?_
      show Steps p.tables e below (s₁.setTop (mkF m 39 _ [])) _
      refine XS.iload X0.here hx rfl (hb hby at_39) rfl ?_
      show Steps p.tables e below (s₁.setTop (mkF m 41 _ [(.int (p3 &&& (3 : Int32)))])) _
      refine XS.iconst X0.here hx rfl (hb hby at_41) ?_
      exact kt
    by_cases hc15 : (p3 &&& (3 : Int32)) = (2 : Int32)
    · skip
      have pre16 : ∀ t, Steps p.tables e below (s₁.setTop (mkF m 60 #[.val (.long q1), .second, .val (.long q2), .second, .val (.int p3), .val (.int (p3 &&& (3 : Int32))), .val (.long ((((p3 >>> ((2 : Int32) &&& 31)) &&& (3 : Int32)).toInt64) - (1 : Int64))), .second, .val (.long (((-9223372036854775808 : Int64) - q1) + ((((p3 >>> ((2 : Int32) &&& 31)) &&& (3 : Int32)).toInt64) - (1 : Int64)))), .second] [(.int (lcmpW q1 (-9223372036854775808 : Int64)))])) t → Steps p.tables e below (s₁.setTop (entryFrame m #[(.long q1), (.long q2), (.int p3)] maxLocals)) t := fun t kt => by
        refine pre14 _ ?_
        show Steps p.tables e below (s₁.setTop (mkF m 42 #[.val (.long q1), .second, .val (.long q2), .second, .val (.int p3), .val (.int (p3 &&& (3 : Int32))), .val (.long ((((p3 >>> ((2 : Int32) &&& 31)) &&& (3 : Int32)).toInt64) - (1 : Int64))), .second, .val (.long q2), .second] [(.int (2 : Int32)), (.int (p3 &&& (3 : Int32)))])) _
        refine XS.icmpNo X0.here hx rfl (hb hby at_42) rfl (teq hc15).2 ?_
        show Steps p.tables e below (s₁.setTop (mkF m 45 _ [])) _
        refine X0.ldc2Long hx hown (mvT hZ (hw _ (List.mem_of_getElem? (i := 0) rfl))) (g := (mkF m 45 #[.val (.long q1), .second, .val (.long q2), .second, .val (.int p3), .val (.int (p3 &&& (3 : Int32))), .val (.long ((((p3 >>> ((2 : Int32) &&& 31)) &&& (3 : Int32)).toInt64) - (1 : Int64))), .second, .val (.long q2), .second] [])) rfl (hb hby at_45) _ ?_
        show Steps p.tables e below (s₁.setTop (mkF m 48 _ [(.long (-9223372036854775808 : Int64))])) _
        refine XS.lloadN X0.here hx rfl (hb hby at_48) rfl ?_
        show Steps p.tables e below (s₁.setTop (mkF m 49 _ [(.long q1), (.long (-9223372036854775808 : Int64))])) _
        refine XS.lsub X0.here hx rfl (hb hby at_49) rfl ?_
        show Steps p.tables e below (s₁.setTop (mkF m 50 _ [(.long ((-9223372036854775808 : Int64) - q1))])) _
        refine XS.lload X0.here hx rfl (hb hby at_50) rfl ?_
        show Steps p.tables e below (s₁.setTop (mkF m 52 _ [(.long ((((p3 >>> ((2 : Int32) &&& 31)) &&& (3 : Int32)).toInt64) - (1 : Int64))), (.long ((-9223372036854775808 : Int64) - q1))])) _
        refine XS.ladd X0.here hx rfl (hb hby at_52) rfl ?_
        show Steps p.tables e below (s₁.setTop (mkF m 53 _ [(.long (((-9223372036854775808 : Int64) - q1) + ((((p3 >>> ((2 : Int32) &&& 31)) &&& (3 : Int32)).toInt64) - (1 : Int64))))])) _
        refine XS.lstore X0.here hx rfl (hb hby at_53) rfl (l' := #[.val (.long q1), .second, .val (.long q2), .second, .val (.int p3), .val (.int (p3 &&& (3 : Int32))), .val (.long ((((p3 >>> ((2 : Int32) &&& 31)) &&& (3 : Int32)).toInt64) - (1 : Int64))), .second, .val (.long (((-9223372036854775808 : Int64) - q1) + ((((p3 >>> ((2 : Int32) &&& 31)) &&& (3 : Int32)).toInt64) - (1 : Int64)))), .second]) rfl ?_
        show Steps p.tables e below (s₁.setTop (mkF m 55 _ [])) _
        refine XS.lloadN X0.here hx rfl (hb hby at_55) rfl ?_
        show Steps p.tables e below (s₁.setTop (mkF m 56 _ [(.long q1)])) _
        refine X0.ldc2Long hx hown (mvT hZ (hw _ (List.mem_of_getElem? (i := 0) rfl))) (g := (mkF m 56 #[.val (.long q1), .second, .val (.long q2), .second, .val (.int p3), .val (.int (p3 &&& (3 : Int32))), .val (.long ((((p3 >>> ((2 : Int32) &&& 31)) &&& (3 : Int32)).toInt64) - (1 : Int64))), .second, .val (.long (((-9223372036854775808 : Int64) - q1) + ((((p3 >>> ((2 : Int32) &&& 31)) &&& (3 : Int32)).toInt64) - (1 : Int64)))), .second] [(.long q1)])) rfl (hb hby at_56) _ ?_
        show Steps p.tables e below (s₁.setTop (mkF m 59 _ [(.long (-9223372036854775808 : Int64)), (.long q1)])) _
        refine XS.lcmp X0.here hx rfl (hb hby at_59) rfl ?_
        exact kt
      by_cases hc17 : q1 = (-9223372036854775808 : Int64)
      · skip
        obtain ⟨fs, hr, hrun, hended, hW, hsame⟩ := X0.leave (v := some (.int (1 : Int32))) (fun h => by rw [Bd.returns] at h; cases h) (by first | exact BodyLoose.notSynchronized Bd | exact Body.notSynchronized Bd)
        refine ⟨_, _, pre16 _ ?_, hrun, hended, _, _, rfl, ?_, ⟨_, rfl⟩, hW, hsame.mono (by decide) (by decide)⟩
        · show Steps p.tables e below (s₁.setTop (mkF m 60 #[.val (.long q1), .second, .val (.long q2), .second, .val (.int p3), .val (.int (p3 &&& (3 : Int32))), .val (.long ((((p3 >>> ((2 : Int32) &&& 31)) &&& (3 : Int32)).toInt64) - (1 : Int64))), .second, .val (.long (((-9223372036854775808 : Int64) - q1) + ((((p3 >>> ((2 : Int32) &&& 31)) &&& (3 : Int32)).toInt64) - (1 : Int64)))), .second] [(.int (lcmpW q1 (-9223372036854775808 : Int64)))])) _
          refine XS.ifYes X0.here hx rfl (pc0 := 60) (pc' := 72) rfl (hb hby at_60) rfl ((if0 _ _).trans (teq ((lw_eq _ _).mpr hc17)).1) (by decide) (by decide) ?_
          show Steps p.tables e below (s₁.setTop (mkF m 72 _ [])) _
          refine XS.iconst X0.here hx rfl (hb hby at_72) ?_
          show Steps p.tables e below (s₁.setTop (mkF m 73 #[.val (.long q1), .second, .val (.long q2), .second, .val (.int p3), .val (.int (p3 &&& (3 : Int32))), .val (.long ((((p3 >>> ((2 : Int32) &&& 31)) &&& (3 : Int32)).toInt64) - (1 : Int64))), .second, .val (.long (((-9223372036854775808 : Int64) - q1) + ((((p3 >>> ((2 : Int32) &&& 31)) &&& (3 : Int32)).toInt64) - (1 : Int64)))), .second] [(.int (1 : Int32))])) _
          exact retN X0 hx (t := .boolean) Bd.returns (by simp) (hb hby at_73) hr
        · show Q0 Z q1 q2 p3 h0 n0 _ s₁.heap _
          rw [e0]
          exact ⟨congrArg (fun z => some (Value.int z)) (by rw [f0, if_neg hc5, if_pos hc15, if_pos hc17] : f0 q1 q2 p3 = (1 : Int32)).symm, N0⟩
      · skip
        have pre18 : ∀ t, Steps p.tables e below (s₁.setTop (mkF m 69 #[.val (.long q1), .second, .val (.long q2), .second, .val (.int p3), .val (.int (p3 &&& (3 : Int32))), .val (.long ((((p3 >>> ((2 : Int32) &&& 31)) &&& (3 : Int32)).toInt64) - (1 : Int64))), .second, .val (.long (((-9223372036854775808 : Int64) - q1) + ((((p3 >>> ((2 : Int32) &&& 31)) &&& (3 : Int32)).toInt64) - (1 : Int64)))), .second] [(.int (lcmpW (((-9223372036854775808 : Int64) - q1) + ((((p3 >>> ((2 : Int32) &&& 31)) &&& (3 : Int32)).toInt64) - (1 : Int64))) (-9223372036854775808 : Int64)))])) t → Steps p.tables e below (s₁.setTop (entryFrame m #[(.long q1), (.long q2), (.int p3)] maxLocals)) t := fun t kt => by
          refine pre16 _ ?_
          show Steps p.tables e below (s₁.setTop (mkF m 60 #[.val (.long q1), .second, .val (.long q2), .second, .val (.int p3), .val (.int (p3 &&& (3 : Int32))), .val (.long ((((p3 >>> ((2 : Int32) &&& 31)) &&& (3 : Int32)).toInt64) - (1 : Int64))), .second, .val (.long (((-9223372036854775808 : Int64) - q1) + ((((p3 >>> ((2 : Int32) &&& 31)) &&& (3 : Int32)).toInt64) - (1 : Int64)))), .second] [(.int (lcmpW q1 (-9223372036854775808 : Int64)))])) _
          refine XS.ifNo X0.here hx rfl (hb hby at_60) rfl ((if0 _ _).trans (feq (mt (lw_eq _ _).mp hc17)).1) ?_
          show Steps p.tables e below (s₁.setTop (mkF m 63 _ [])) _
          refine XS.lload X0.here hx rfl (hb hby at_63) rfl ?_
          show Steps p.tables e below (s₁.setTop (mkF m 65 _ [(.long (((-9223372036854775808 : Int64) - q1) + ((((p3 >>> ((2 : Int32) &&& 31)) &&& (3 : Int32)).toInt64) - (1 : Int64))))])) _
          refine X0.ldc2Long hx hown (mvT hZ (hw _ (List.mem_of_getElem? (i := 0) rfl))) (g := (mkF m 65 #[.val (.long q1), .second, .val (.long q2), .second, .val (.int p3), .val (.int (p3 &&& (3 : Int32))), .val (.long ((((p3 >>> ((2 : Int32) &&& 31)) &&& (3 : Int32)).toInt64) - (1 : Int64))), .second, .val (.long (((-9223372036854775808 : Int64) - q1) + ((((p3 >>> ((2 : Int32) &&& 31)) &&& (3 : Int32)).toInt64) - (1 : Int64)))), .second] [(.long (((-9223372036854775808 : Int64) - q1) + ((((p3 >>> ((2 : Int32) &&& 31)) &&& (3 : Int32)).toInt64) - (1 : Int64))))])) rfl (hb hby at_65) _ ?_
          show Steps p.tables e below (s₁.setTop (mkF m 68 _ [(.long (-9223372036854775808 : Int64)), (.long (((-9223372036854775808 : Int64) - q1) + ((((p3 >>> ((2 : Int32) &&& 31)) &&& (3 : Int32)).toInt64) - (1 : Int64))))])) _
          refine XS.lcmp X0.here hx rfl (hb hby at_68) rfl ?_
          exact kt
        by_cases hc19 : (((-9223372036854775808 : Int64) - q1) + ((((p3 >>> ((2 : Int32) &&& 31)) &&& (3 : Int32)).toInt64) - (1 : Int64))) = (-9223372036854775808 : Int64)
        · skip
          obtain ⟨fs, hr, hrun, hended, hW, hsame⟩ := X0.leave (v := some (.int (1 : Int32))) (fun h => by rw [Bd.returns] at h; cases h) (by first | exact BodyLoose.notSynchronized Bd | exact Body.notSynchronized Bd)
          refine ⟨_, _, pre18 _ ?_, hrun, hended, _, _, rfl, ?_, ⟨_, rfl⟩, hW, hsame.mono (by decide) (by decide)⟩
          · show Steps p.tables e below (s₁.setTop (mkF m 69 #[.val (.long q1), .second, .val (.long q2), .second, .val (.int p3), .val (.int (p3 &&& (3 : Int32))), .val (.long ((((p3 >>> ((2 : Int32) &&& 31)) &&& (3 : Int32)).toInt64) - (1 : Int64))), .second, .val (.long (((-9223372036854775808 : Int64) - q1) + ((((p3 >>> ((2 : Int32) &&& 31)) &&& (3 : Int32)).toInt64) - (1 : Int64)))), .second] [(.int (lcmpW (((-9223372036854775808 : Int64) - q1) + ((((p3 >>> ((2 : Int32) &&& 31)) &&& (3 : Int32)).toInt64) - (1 : Int64))) (-9223372036854775808 : Int64)))])) _
            refine XS.ifNo X0.here hx rfl (hb hby at_69) rfl ((if0 _ _).trans (teq ((lw_eq _ _).mpr hc19)).2) ?_
            show Steps p.tables e below (s₁.setTop (mkF m 72 _ [])) _
            refine XS.iconst X0.here hx rfl (hb hby at_72) ?_
            show Steps p.tables e below (s₁.setTop (mkF m 73 #[.val (.long q1), .second, .val (.long q2), .second, .val (.int p3), .val (.int (p3 &&& (3 : Int32))), .val (.long ((((p3 >>> ((2 : Int32) &&& 31)) &&& (3 : Int32)).toInt64) - (1 : Int64))), .second, .val (.long (((-9223372036854775808 : Int64) - q1) + ((((p3 >>> ((2 : Int32) &&& 31)) &&& (3 : Int32)).toInt64) - (1 : Int64)))), .second] [(.int (1 : Int32))])) _
            exact retN X0 hx (t := .boolean) Bd.returns (by simp) (hb hby at_73) hr
          · show Q0 Z q1 q2 p3 h0 n0 _ s₁.heap _
            rw [e0]
            exact ⟨congrArg (fun z => some (Value.int z)) (by rw [f0, if_neg hc5, if_pos hc15, if_neg hc17, if_pos hc19] : f0 q1 q2 p3 = (1 : Int32)).symm, N0⟩
        · skip
          obtain ⟨_, _, ⟨T20, L20, k20, n20⟩, -, X20, ⟨Lc20, hQ20, l20, y20, z20⟩, st20⟩ := Jvm.LawKit.callS X0 hx (y := (⟨"com/example/creditree/creditree/Money", "plusCents", "(JJ)J"⟩ : MethodName)) hown (mvT hZ (hw _ (List.mem_of_getElem? (i := 1) rfl))) (mvT hZ (hw _ (List.mem_of_getElem? (i := 2) rfl))) (mvT hZ (hw _ (List.mem_of_getElem? (i := 3) rfl))) (mvT hZ (hw _ (List.mem_of_getElem? (i := 4) rfl))) (by decide) (backOf (W := 0) (rm1 l Z a0 hw [] q1 (((-9223372036854775808 : Int64) - q1) + ((((p3 >>> ((2 : Int32) &&& 31)) &&& (3 : Int32)).toInt64) - (1 : Int64))) h0 n0 Z0 ) hZ (hw _ (List.mem_of_getElem? (i := 4) rfl)) (hw _ (List.mem_of_getElem? (i := 3) rfl)) (by decide) (by decide)) (g := (mkF m 77 #[.val (.long q1), .second, .val (.long q2), .second, .val (.int p3), .val (.int (p3 &&& (3 : Int32))), .val (.long ((((p3 >>> ((2 : Int32) &&& 31)) &&& (3 : Int32)).toInt64) - (1 : Int64))), .second, .val (.long (((-9223372036854775808 : Int64) - q1) + ((((p3 >>> ((2 : Int32) &&& 31)) &&& (3 : Int32)).toInt64) - (1 : Int64)))), .second] [(.long (((-9223372036854775808 : Int64) - q1) + ((((p3 >>> ((2 : Int32) &&& 31)) &&& (3 : Int32)).toInt64) - (1 : Int64)))), (.long q1)])) rfl (by rw [hml]; rfl) (argsL := [(.long q1), (.long (((-9223372036854775808 : Int64) - q1) + ((((p3 >>> ((2 : Int32) &&& 31)) &&& (3 : Int32)).toInt64) - (1 : Int64))))]) (rest := []) (lenOf pd_0_0 rfl) rfl (by show 2 * 0 + _ ≤ _; exact Nat.le_of_eq rfl) (hb hby at_77) (fun _ _ => ⟨rfl, e0, (by decide : 0 + 0 ≤ _), (by decide : 0 + 0 ≤ _)⟩)
          dsimp only [Pt.U, Pt.locs, Pt.cells, Pt.slots] at X20 l20 y20 z20 st20 hQ20
          subst l20 y20 z20
          obtain ⟨rfl, N20q, e20⟩ := hQ20
          have N20 := Fr.app N0 N20q
          obtain ⟨_, _, ⟨T21, L21, k21, n21⟩, -, X21, ⟨Lc21, hQ21, l21, y21, z21⟩, st21⟩ := Jvm.LawKit.callS X20 hx (y := (⟨"com/example/creditree/creditree/MoneyPlusCentsPinLaw", "expected", "(JJ)J"⟩ : MethodName)) hown (mvT hZ (hw _ (List.mem_of_getElem? (i := 5) rfl))) (mvT hZ (hw _ (List.mem_of_getElem? (i := 6) rfl))) (mvT hZ (hw _ (List.mem_of_getElem? (i := 7) rfl))) (mvT hZ (hw _ (List.mem_of_getElem? (i := 8) rfl))) (by decide) (backOf (W := 2) (rm2 l Z a0 hw [] q1 (((-9223372036854775808 : Int64) - q1) + ((((p3 >>> ((2 : Int32) &&& 31)) &&& (3 : Int32)).toInt64) - (1 : Int64))) h0 n0 Z0 ) hZ (hw _ (List.mem_of_getElem? (i := 8) rfl)) (hw _ (List.mem_of_getElem? (i := 7) rfl)) (by decide) (by decide)) (g := (mkF m 83 #[.val (.long q1), .second, .val (.long q2), .second, .val (.int p3), .val (.int (p3 &&& (3 : Int32))), .val (.long ((((p3 >>> ((2 : Int32) &&& 31)) &&& (3 : Int32)).toInt64) - (1 : Int64))), .second, .val (.long (((-9223372036854775808 : Int64) - q1) + ((((p3 >>> ((2 : Int32) &&& 31)) &&& (3 : Int32)).toInt64) - (1 : Int64)))), .second] [(.long (((-9223372036854775808 : Int64) - q1) + ((((p3 >>> ((2 : Int32) &&& 31)) &&& (3 : Int32)).toInt64) - (1 : Int64)))), (.long q1), (.long (f1 q1 (((-9223372036854775808 : Int64) - q1) + ((((p3 >>> ((2 : Int32) &&& 31)) &&& (3 : Int32)).toInt64) - (1 : Int64)))))])) rfl (by rw [hml]; rfl) (argsL := [(.long q1), (.long (((-9223372036854775808 : Int64) - q1) + ((((p3 >>> ((2 : Int32) &&& 31)) &&& (3 : Int32)).toInt64) - (1 : Int64))))]) (rest := [(.long (f1 q1 (((-9223372036854775808 : Int64) - q1) + ((((p3 >>> ((2 : Int32) &&& 31)) &&& (3 : Int32)).toInt64) - (1 : Int64)))))]) (lenOf pd_0_0 rfl) rfl (by show 2 * 0 + _ ≤ _; exact Nat.le_of_eq rfl) (hb hby at_83) (fun _ _ => ⟨rfl, e20, (by decide : 0 + 0 ≤ _), (by decide : 0 + 0 ≤ _)⟩)
          dsimp only [Pt.U, Pt.locs, Pt.cells, Pt.slots] at X21 l21 y21 z21 st21 hQ21
          subst l21 y21 z21
          obtain ⟨rfl, N21q, e21⟩ := hQ21
          have N21 := Fr.app N20 N21q
          have pre22 : ∀ t, Steps p.tables e below (T21.setTop (mkF m 87 #[.val (.long q1), .second, .val (.long q2), .second, .val (.int p3), .val (.int (p3 &&& (3 : Int32))), .val (.long ((((p3 >>> ((2 : Int32) &&& 31)) &&& (3 : Int32)).toInt64) - (1 : Int64))), .second, .val (.long (((-9223372036854775808 : Int64) - q1) + ((((p3 >>> ((2 : Int32) &&& 31)) &&& (3 : Int32)).toInt64) - (1 : Int64)))), .second] [(.int (lcmpW (f1 q1 (((-9223372036854775808 : Int64) - q1) + ((((p3 >>> ((2 : Int32) &&& 31)) &&& (3 : Int32)).toInt64) - (1 : Int64)))) (f2 q1 (((-9223372036854775808 : Int64) - q1) + ((((p3 >>> ((2 : Int32) &&& 31)) &&& (3 : Int32)).toInt64) - (1 : Int64))))))])) t → Steps p.tables e below (s₁.setTop (entryFrame m #[(.long q1), (.long q2), (.int p3)] maxLocals)) t := fun t kt => by
            refine pre18 _ ?_
            show Steps p.tables e below (s₁.setTop (mkF m 69 #[.val (.long q1), .second, .val (.long q2), .second, .val (.int p3), .val (.int (p3 &&& (3 : Int32))), .val (.long ((((p3 >>> ((2 : Int32) &&& 31)) &&& (3 : Int32)).toInt64) - (1 : Int64))), .second, .val (.long (((-9223372036854775808 : Int64) - q1) + ((((p3 >>> ((2 : Int32) &&& 31)) &&& (3 : Int32)).toInt64) - (1 : Int64)))), .second] [(.int (lcmpW (((-9223372036854775808 : Int64) - q1) + ((((p3 >>> ((2 : Int32) &&& 31)) &&& (3 : Int32)).toInt64) - (1 : Int64))) (-9223372036854775808 : Int64)))])) _
            refine XS.ifYes X0.here hx rfl (pc0 := 69) (pc' := 74) rfl (hb hby at_69) rfl ((if0 _ _).trans (feq (mt (lw_eq _ _).mp hc19)).2) (by decide) (by decide) ?_
            show Steps p.tables e below (s₁.setTop (mkF m 74 _ [])) _
            refine XS.lloadN X0.here hx rfl (hb hby at_74) rfl ?_
            show Steps p.tables e below (s₁.setTop (mkF m 75 _ [(.long q1)])) _
            refine XS.lload X0.here hx rfl (hb hby at_75) rfl ?_
            show Steps p.tables e below (s₁.setTop (mkF m 77 _ [(.long (((-9223372036854775808 : Int64) - q1) + ((((p3 >>> ((2 : Int32) &&& 31)) &&& (3 : Int32)).toInt64) - (1 : Int64)))), (.long q1)])) _
            refine st20 _ ?_
            show Steps p.tables e below (T20.setTop (mkF m 80 _ [(.long (f1 q1 (((-9223372036854775808 : Int64) - q1) + ((((p3 >>> ((2 : Int32) &&& 31)) &&& (3 : Int32)).toInt64) - (1 : Int64)))))])) _
            refine XS.lloadN X20.here hx rfl (hb hby at_80) rfl ?_
            show Steps p.tables e below (T20.setTop (mkF m 81 _ [(.long q1), (.long (f1 q1 (((-9223372036854775808 : Int64) - q1) + ((((p3 >>> ((2 : Int32) &&& 31)) &&& (3 : Int32)).toInt64) - (1 : Int64)))))])) _
            refine XS.lload X20.here hx rfl (hb hby at_81) rfl ?_
            show Steps p.tables e below (T20.setTop (mkF m 83 _ [(.long (((-9223372036854775808 : Int64) - q1) + ((((p3 >>> ((2 : Int32) &&& 31)) &&& (3 : Int32)).toInt64) - (1 : Int64)))), (.long q1), (.long (f1 q1 (((-9223372036854775808 : Int64) - q1) + ((((p3 >>> ((2 : Int32) &&& 31)) &&& (3 : Int32)).toInt64) - (1 : Int64)))))])) _
            refine st21 _ ?_
            show Steps p.tables e below (T21.setTop (mkF m 86 _ [(.long (f2 q1 (((-9223372036854775808 : Int64) - q1) + ((((p3 >>> ((2 : Int32) &&& 31)) &&& (3 : Int32)).toInt64) - (1 : Int64))))), (.long (f1 q1 (((-9223372036854775808 : Int64) - q1) + ((((p3 >>> ((2 : Int32) &&& 31)) &&& (3 : Int32)).toInt64) - (1 : Int64)))))])) _
            refine XS.lcmp X21.here hx rfl (hb hby at_86) rfl ?_
            exact kt
          by_cases hc23 : (f1 q1 (((-9223372036854775808 : Int64) - q1) + ((((p3 >>> ((2 : Int32) &&& 31)) &&& (3 : Int32)).toInt64) - (1 : Int64)))) = (f2 q1 (((-9223372036854775808 : Int64) - q1) + ((((p3 >>> ((2 : Int32) &&& 31)) &&& (3 : Int32)).toInt64) - (1 : Int64))))
          · skip
            obtain ⟨fs, hr, hrun, hended, hW, hsame⟩ := X21.leave (v := some (.int (1 : Int32))) (fun h => by rw [Bd.returns] at h; cases h) (by first | exact BodyLoose.notSynchronized Bd | exact Body.notSynchronized Bd)
            refine ⟨_, _, pre22 _ ?_, hrun, hended, _, _, rfl, ?_, ⟨_, rfl⟩, hW, hsame.mono (by decide) (by decide)⟩
            · show Steps p.tables e below (T21.setTop (mkF m 87 #[.val (.long q1), .second, .val (.long q2), .second, .val (.int p3), .val (.int (p3 &&& (3 : Int32))), .val (.long ((((p3 >>> ((2 : Int32) &&& 31)) &&& (3 : Int32)).toInt64) - (1 : Int64))), .second, .val (.long (((-9223372036854775808 : Int64) - q1) + ((((p3 >>> ((2 : Int32) &&& 31)) &&& (3 : Int32)).toInt64) - (1 : Int64)))), .second] [(.int (lcmpW (f1 q1 (((-9223372036854775808 : Int64) - q1) + ((((p3 >>> ((2 : Int32) &&& 31)) &&& (3 : Int32)).toInt64) - (1 : Int64)))) (f2 q1 (((-9223372036854775808 : Int64) - q1) + ((((p3 >>> ((2 : Int32) &&& 31)) &&& (3 : Int32)).toInt64) - (1 : Int64))))))])) _
              refine XS.ifNo X21.here hx rfl (hb hby at_87) rfl ((if0 _ _).trans (teq ((lw_eq _ _).mpr hc23)).2) ?_
              show Steps p.tables e below (T21.setTop (mkF m 90 _ [])) _
              refine XS.iconst X21.here hx rfl (hb hby at_90) ?_
              show Steps p.tables e below (T21.setTop (mkF m 91 _ [(.int (1 : Int32))])) _
              refine XS.goto X21.here hx rfl (pc0 := 91) (pc' := 95) rfl (hb hby at_91) (by decide) (by decide) ?_
              show Steps p.tables e below (T21.setTop (mkF m 95 #[.val (.long q1), .second, .val (.long q2), .second, .val (.int p3), .val (.int (p3 &&& (3 : Int32))), .val (.long ((((p3 >>> ((2 : Int32) &&& 31)) &&& (3 : Int32)).toInt64) - (1 : Int64))), .second, .val (.long (((-9223372036854775808 : Int64) - q1) + ((((p3 >>> ((2 : Int32) &&& 31)) &&& (3 : Int32)).toInt64) - (1 : Int64)))), .second] [(.int (1 : Int32))])) _
              exact retN X21 hx (t := .boolean) Bd.returns (by simp) (hb hby at_95) hr
            · show Q0 Z q1 q2 p3 h0 n0 _ T21.heap _
              rw [e21]
              exact ⟨congrArg (fun z => some (Value.int z)) (by rw [f0, if_neg hc5, if_pos hc15, if_neg hc17, if_neg hc19, if_pos hc23] : f0 q1 q2 p3 = (1 : Int32)).symm, N21⟩
          · skip
            obtain ⟨fs, hr, hrun, hended, hW, hsame⟩ := X21.leave (v := some (.int (0 : Int32))) (fun h => by rw [Bd.returns] at h; cases h) (by first | exact BodyLoose.notSynchronized Bd | exact Body.notSynchronized Bd)
            refine ⟨_, _, pre22 _ ?_, hrun, hended, _, _, rfl, ?_, ⟨_, rfl⟩, hW, hsame.mono (by decide) (by decide)⟩
            · show Steps p.tables e below (T21.setTop (mkF m 87 #[.val (.long q1), .second, .val (.long q2), .second, .val (.int p3), .val (.int (p3 &&& (3 : Int32))), .val (.long ((((p3 >>> ((2 : Int32) &&& 31)) &&& (3 : Int32)).toInt64) - (1 : Int64))), .second, .val (.long (((-9223372036854775808 : Int64) - q1) + ((((p3 >>> ((2 : Int32) &&& 31)) &&& (3 : Int32)).toInt64) - (1 : Int64)))), .second] [(.int (lcmpW (f1 q1 (((-9223372036854775808 : Int64) - q1) + ((((p3 >>> ((2 : Int32) &&& 31)) &&& (3 : Int32)).toInt64) - (1 : Int64)))) (f2 q1 (((-9223372036854775808 : Int64) - q1) + ((((p3 >>> ((2 : Int32) &&& 31)) &&& (3 : Int32)).toInt64) - (1 : Int64))))))])) _
              refine XS.ifYes X21.here hx rfl (pc0 := 87) (pc' := 94) rfl (hb hby at_87) rfl ((if0 _ _).trans (feq (mt (lw_eq _ _).mp hc23)).2) (by decide) (by decide) ?_
              show Steps p.tables e below (T21.setTop (mkF m 94 _ [])) _
              refine XS.iconst X21.here hx rfl (hb hby at_94) ?_
              show Steps p.tables e below (T21.setTop (mkF m 95 #[.val (.long q1), .second, .val (.long q2), .second, .val (.int p3), .val (.int (p3 &&& (3 : Int32))), .val (.long ((((p3 >>> ((2 : Int32) &&& 31)) &&& (3 : Int32)).toInt64) - (1 : Int64))), .second, .val (.long (((-9223372036854775808 : Int64) - q1) + ((((p3 >>> ((2 : Int32) &&& 31)) &&& (3 : Int32)).toInt64) - (1 : Int64)))), .second] [(.int (0 : Int32))])) _
              exact retN X21 hx (t := .boolean) Bd.returns (by simp) (hb hby at_95) hr
            · show Q0 Z q1 q2 p3 h0 n0 _ T21.heap _
              rw [e21]
              exact ⟨congrArg (fun z => some (Value.int z)) (by rw [f0, if_neg hc5, if_pos hc15, if_neg hc17, if_neg hc19, if_neg hc23] : f0 q1 q2 p3 = (0 : Int32)).symm, N21⟩
    · skip
      have pre24 : ∀ t, Steps p.tables e below (s₁.setTop (mkF m 60 #[.val (.long q1), .second, .val (.long q2), .second, .val (.int p3), .val (.int (p3 &&& (3 : Int32))), .val (.long ((((p3 >>> ((2 : Int32) &&& 31)) &&& (3 : Int32)).toInt64) - (1 : Int64))), .second, .val (.long q2), .second] [(.int (lcmpW q1 (-9223372036854775808 : Int64)))])) t → Steps p.tables e below (s₁.setTop (entryFrame m #[(.long q1), (.long q2), (.int p3)] maxLocals)) t := fun t kt => by
        refine pre14 _ ?_
        show Steps p.tables e below (s₁.setTop (mkF m 42 #[.val (.long q1), .second, .val (.long q2), .second, .val (.int p3), .val (.int (p3 &&& (3 : Int32))), .val (.long ((((p3 >>> ((2 : Int32) &&& 31)) &&& (3 : Int32)).toInt64) - (1 : Int64))), .second, .val (.long q2), .second] [(.int (2 : Int32)), (.int (p3 &&& (3 : Int32)))])) _
        refine XS.icmpYes X0.here hx rfl (pc0 := 42) (pc' := 55) rfl (hb hby at_42) rfl (feq hc15).2 (by decide) (by decide) ?_
        show Steps p.tables e below (s₁.setTop (mkF m 55 _ [])) _
        refine XS.lloadN X0.here hx rfl (hb hby at_55) rfl ?_
        show Steps p.tables e below (s₁.setTop (mkF m 56 _ [(.long q1)])) _
        refine X0.ldc2Long hx hown (mvT hZ (hw _ (List.mem_of_getElem? (i := 0) rfl))) (g := (mkF m 56 #[.val (.long q1), .second, .val (.long q2), .second, .val (.int p3), .val (.int (p3 &&& (3 : Int32))), .val (.long ((((p3 >>> ((2 : Int32) &&& 31)) &&& (3 : Int32)).toInt64) - (1 : Int64))), .second, .val (.long q2), .second] [(.long q1)])) rfl (hb hby at_56) _ ?_
        show Steps p.tables e below (s₁.setTop (mkF m 59 _ [(.long (-9223372036854775808 : Int64)), (.long q1)])) _
        refine XS.lcmp X0.here hx rfl (hb hby at_59) rfl ?_
        exact kt
      by_cases hc25 : q1 = (-9223372036854775808 : Int64)
      · skip
        obtain ⟨fs, hr, hrun, hended, hW, hsame⟩ := X0.leave (v := some (.int (1 : Int32))) (fun h => by rw [Bd.returns] at h; cases h) (by first | exact BodyLoose.notSynchronized Bd | exact Body.notSynchronized Bd)
        refine ⟨_, _, pre24 _ ?_, hrun, hended, _, _, rfl, ?_, ⟨_, rfl⟩, hW, hsame.mono (by decide) (by decide)⟩
        · show Steps p.tables e below (s₁.setTop (mkF m 60 #[.val (.long q1), .second, .val (.long q2), .second, .val (.int p3), .val (.int (p3 &&& (3 : Int32))), .val (.long ((((p3 >>> ((2 : Int32) &&& 31)) &&& (3 : Int32)).toInt64) - (1 : Int64))), .second, .val (.long q2), .second] [(.int (lcmpW q1 (-9223372036854775808 : Int64)))])) _
          refine XS.ifYes X0.here hx rfl (pc0 := 60) (pc' := 72) rfl (hb hby at_60) rfl ((if0 _ _).trans (teq ((lw_eq _ _).mpr hc25)).1) (by decide) (by decide) ?_
          show Steps p.tables e below (s₁.setTop (mkF m 72 _ [])) _
          refine XS.iconst X0.here hx rfl (hb hby at_72) ?_
          show Steps p.tables e below (s₁.setTop (mkF m 73 #[.val (.long q1), .second, .val (.long q2), .second, .val (.int p3), .val (.int (p3 &&& (3 : Int32))), .val (.long ((((p3 >>> ((2 : Int32) &&& 31)) &&& (3 : Int32)).toInt64) - (1 : Int64))), .second, .val (.long q2), .second] [(.int (1 : Int32))])) _
          exact retN X0 hx (t := .boolean) Bd.returns (by simp) (hb hby at_73) hr
        · show Q0 Z q1 q2 p3 h0 n0 _ s₁.heap _
          rw [e0]
          exact ⟨congrArg (fun z => some (Value.int z)) (by rw [f0, if_neg hc5, if_neg hc15, if_pos hc25] : f0 q1 q2 p3 = (1 : Int32)).symm, N0⟩
      · skip
        have pre26 : ∀ t, Steps p.tables e below (s₁.setTop (mkF m 69 #[.val (.long q1), .second, .val (.long q2), .second, .val (.int p3), .val (.int (p3 &&& (3 : Int32))), .val (.long ((((p3 >>> ((2 : Int32) &&& 31)) &&& (3 : Int32)).toInt64) - (1 : Int64))), .second, .val (.long q2), .second] [(.int (lcmpW q2 (-9223372036854775808 : Int64)))])) t → Steps p.tables e below (s₁.setTop (entryFrame m #[(.long q1), (.long q2), (.int p3)] maxLocals)) t := fun t kt => by
          refine pre24 _ ?_
          show Steps p.tables e below (s₁.setTop (mkF m 60 #[.val (.long q1), .second, .val (.long q2), .second, .val (.int p3), .val (.int (p3 &&& (3 : Int32))), .val (.long ((((p3 >>> ((2 : Int32) &&& 31)) &&& (3 : Int32)).toInt64) - (1 : Int64))), .second, .val (.long q2), .second] [(.int (lcmpW q1 (-9223372036854775808 : Int64)))])) _
          refine XS.ifNo X0.here hx rfl (hb hby at_60) rfl ((if0 _ _).trans (feq (mt (lw_eq _ _).mp hc25)).1) ?_
          show Steps p.tables e below (s₁.setTop (mkF m 63 _ [])) _
          refine XS.lload X0.here hx rfl (hb hby at_63) rfl ?_
          show Steps p.tables e below (s₁.setTop (mkF m 65 _ [(.long q2)])) _
          refine X0.ldc2Long hx hown (mvT hZ (hw _ (List.mem_of_getElem? (i := 0) rfl))) (g := (mkF m 65 #[.val (.long q1), .second, .val (.long q2), .second, .val (.int p3), .val (.int (p3 &&& (3 : Int32))), .val (.long ((((p3 >>> ((2 : Int32) &&& 31)) &&& (3 : Int32)).toInt64) - (1 : Int64))), .second, .val (.long q2), .second] [(.long q2)])) rfl (hb hby at_65) _ ?_
          show Steps p.tables e below (s₁.setTop (mkF m 68 _ [(.long (-9223372036854775808 : Int64)), (.long q2)])) _
          refine XS.lcmp X0.here hx rfl (hb hby at_68) rfl ?_
          exact kt
        by_cases hc27 : q2 = (-9223372036854775808 : Int64)
        · skip
          obtain ⟨fs, hr, hrun, hended, hW, hsame⟩ := X0.leave (v := some (.int (1 : Int32))) (fun h => by rw [Bd.returns] at h; cases h) (by first | exact BodyLoose.notSynchronized Bd | exact Body.notSynchronized Bd)
          refine ⟨_, _, pre26 _ ?_, hrun, hended, _, _, rfl, ?_, ⟨_, rfl⟩, hW, hsame.mono (by decide) (by decide)⟩
          · show Steps p.tables e below (s₁.setTop (mkF m 69 #[.val (.long q1), .second, .val (.long q2), .second, .val (.int p3), .val (.int (p3 &&& (3 : Int32))), .val (.long ((((p3 >>> ((2 : Int32) &&& 31)) &&& (3 : Int32)).toInt64) - (1 : Int64))), .second, .val (.long q2), .second] [(.int (lcmpW q2 (-9223372036854775808 : Int64)))])) _
            refine XS.ifNo X0.here hx rfl (hb hby at_69) rfl ((if0 _ _).trans (teq ((lw_eq _ _).mpr hc27)).2) ?_
            show Steps p.tables e below (s₁.setTop (mkF m 72 _ [])) _
            refine XS.iconst X0.here hx rfl (hb hby at_72) ?_
            show Steps p.tables e below (s₁.setTop (mkF m 73 #[.val (.long q1), .second, .val (.long q2), .second, .val (.int p3), .val (.int (p3 &&& (3 : Int32))), .val (.long ((((p3 >>> ((2 : Int32) &&& 31)) &&& (3 : Int32)).toInt64) - (1 : Int64))), .second, .val (.long q2), .second] [(.int (1 : Int32))])) _
            exact retN X0 hx (t := .boolean) Bd.returns (by simp) (hb hby at_73) hr
          · show Q0 Z q1 q2 p3 h0 n0 _ s₁.heap _
            rw [e0]
            exact ⟨congrArg (fun z => some (Value.int z)) (by rw [f0, if_neg hc5, if_neg hc15, if_neg hc25, if_pos hc27] : f0 q1 q2 p3 = (1 : Int32)).symm, N0⟩
        · skip
          obtain ⟨_, _, ⟨T28, L28, k28, n28⟩, -, X28, ⟨Lc28, hQ28, l28, y28, z28⟩, st28⟩ := Jvm.LawKit.callS X0 hx (y := (⟨"com/example/creditree/creditree/Money", "plusCents", "(JJ)J"⟩ : MethodName)) hown (mvT hZ (hw _ (List.mem_of_getElem? (i := 1) rfl))) (mvT hZ (hw _ (List.mem_of_getElem? (i := 2) rfl))) (mvT hZ (hw _ (List.mem_of_getElem? (i := 3) rfl))) (mvT hZ (hw _ (List.mem_of_getElem? (i := 4) rfl))) (by decide) (backOf (W := 0) (rm1 l Z a0 hw [] q1 q2 h0 n0 Z0 ) hZ (hw _ (List.mem_of_getElem? (i := 4) rfl)) (hw _ (List.mem_of_getElem? (i := 3) rfl)) (by decide) (by decide)) (g := (mkF m 77 #[.val (.long q1), .second, .val (.long q2), .second, .val (.int p3), .val (.int (p3 &&& (3 : Int32))), .val (.long ((((p3 >>> ((2 : Int32) &&& 31)) &&& (3 : Int32)).toInt64) - (1 : Int64))), .second, .val (.long q2), .second] [(.long q2), (.long q1)])) rfl (by rw [hml]; rfl) (argsL := [(.long q1), (.long q2)]) (rest := []) (lenOf pd_0_0 rfl) rfl (by show 2 * 0 + _ ≤ _; exact Nat.le_of_eq rfl) (hb hby at_77) (fun _ _ => ⟨rfl, e0, (by decide : 0 + 0 ≤ _), (by decide : 0 + 0 ≤ _)⟩)
          dsimp only [Pt.U, Pt.locs, Pt.cells, Pt.slots] at X28 l28 y28 z28 st28 hQ28
          subst l28 y28 z28
          obtain ⟨rfl, N28q, e28⟩ := hQ28
          have N28 := Fr.app N0 N28q
          obtain ⟨_, _, ⟨T29, L29, k29, n29⟩, -, X29, ⟨Lc29, hQ29, l29, y29, z29⟩, st29⟩ := Jvm.LawKit.callS X28 hx (y := (⟨"com/example/creditree/creditree/MoneyPlusCentsPinLaw", "expected", "(JJ)J"⟩ : MethodName)) hown (mvT hZ (hw _ (List.mem_of_getElem? (i := 5) rfl))) (mvT hZ (hw _ (List.mem_of_getElem? (i := 6) rfl))) (mvT hZ (hw _ (List.mem_of_getElem? (i := 7) rfl))) (mvT hZ (hw _ (List.mem_of_getElem? (i := 8) rfl))) (by decide) (backOf (W := 2) (rm2 l Z a0 hw [] q1 q2 h0 n0 Z0 ) hZ (hw _ (List.mem_of_getElem? (i := 8) rfl)) (hw _ (List.mem_of_getElem? (i := 7) rfl)) (by decide) (by decide)) (g := (mkF m 83 #[.val (.long q1), .second, .val (.long q2), .second, .val (.int p3), .val (.int (p3 &&& (3 : Int32))), .val (.long ((((p3 >>> ((2 : Int32) &&& 31)) &&& (3 : Int32)).toInt64) - (1 : Int64))), .second, .val (.long q2), .second] [(.long q2), (.long q1), (.long (f1 q1 q2))])) rfl (by rw [hml]; rfl) (argsL := [(.long q1), (.long q2)]) (rest := [(.long (f1 q1 q2))]) (lenOf pd_0_0 rfl) rfl (by show 2 * 0 + _ ≤ _; exact Nat.le_of_eq rfl) (hb hby at_83) (fun _ _ => ⟨rfl, e28, (by decide : 0 + 0 ≤ _), (by decide : 0 + 0 ≤ _)⟩)
          dsimp only [Pt.U, Pt.locs, Pt.cells, Pt.slots] at X29 l29 y29 z29 st29 hQ29
          subst l29 y29 z29
          obtain ⟨rfl, N29q, e29⟩ := hQ29
          have N29 := Fr.app N28 N29q
          have pre30 : ∀ t, Steps p.tables e below (T29.setTop (mkF m 87 #[.val (.long q1), .second, .val (.long q2), .second, .val (.int p3), .val (.int (p3 &&& (3 : Int32))), .val (.long ((((p3 >>> ((2 : Int32) &&& 31)) &&& (3 : Int32)).toInt64) - (1 : Int64))), .second, .val (.long q2), .second] [(.int (lcmpW (f1 q1 q2) (f2 q1 q2)))])) t → Steps p.tables e below (s₁.setTop (entryFrame m #[(.long q1), (.long q2), (.int p3)] maxLocals)) t := fun t kt => by
            refine pre26 _ ?_
            show Steps p.tables e below (s₁.setTop (mkF m 69 #[.val (.long q1), .second, .val (.long q2), .second, .val (.int p3), .val (.int (p3 &&& (3 : Int32))), .val (.long ((((p3 >>> ((2 : Int32) &&& 31)) &&& (3 : Int32)).toInt64) - (1 : Int64))), .second, .val (.long q2), .second] [(.int (lcmpW q2 (-9223372036854775808 : Int64)))])) _
            refine XS.ifYes X0.here hx rfl (pc0 := 69) (pc' := 74) rfl (hb hby at_69) rfl ((if0 _ _).trans (feq (mt (lw_eq _ _).mp hc27)).2) (by decide) (by decide) ?_
            show Steps p.tables e below (s₁.setTop (mkF m 74 _ [])) _
            refine XS.lloadN X0.here hx rfl (hb hby at_74) rfl ?_
            show Steps p.tables e below (s₁.setTop (mkF m 75 _ [(.long q1)])) _
            refine XS.lload X0.here hx rfl (hb hby at_75) rfl ?_
            show Steps p.tables e below (s₁.setTop (mkF m 77 _ [(.long q2), (.long q1)])) _
            refine st28 _ ?_
            show Steps p.tables e below (T28.setTop (mkF m 80 _ [(.long (f1 q1 q2))])) _
            refine XS.lloadN X28.here hx rfl (hb hby at_80) rfl ?_
            show Steps p.tables e below (T28.setTop (mkF m 81 _ [(.long q1), (.long (f1 q1 q2))])) _
            refine XS.lload X28.here hx rfl (hb hby at_81) rfl ?_
            show Steps p.tables e below (T28.setTop (mkF m 83 _ [(.long q2), (.long q1), (.long (f1 q1 q2))])) _
            refine st29 _ ?_
            show Steps p.tables e below (T29.setTop (mkF m 86 _ [(.long (f2 q1 q2)), (.long (f1 q1 q2))])) _
            refine XS.lcmp X29.here hx rfl (hb hby at_86) rfl ?_
            exact kt
          by_cases hc31 : (f1 q1 q2) = (f2 q1 q2)
          · skip
            obtain ⟨fs, hr, hrun, hended, hW, hsame⟩ := X29.leave (v := some (.int (1 : Int32))) (fun h => by rw [Bd.returns] at h; cases h) (by first | exact BodyLoose.notSynchronized Bd | exact Body.notSynchronized Bd)
            refine ⟨_, _, pre30 _ ?_, hrun, hended, _, _, rfl, ?_, ⟨_, rfl⟩, hW, hsame.mono (by decide) (by decide)⟩
            · show Steps p.tables e below (T29.setTop (mkF m 87 #[.val (.long q1), .second, .val (.long q2), .second, .val (.int p3), .val (.int (p3 &&& (3 : Int32))), .val (.long ((((p3 >>> ((2 : Int32) &&& 31)) &&& (3 : Int32)).toInt64) - (1 : Int64))), .second, .val (.long q2), .second] [(.int (lcmpW (f1 q1 q2) (f2 q1 q2)))])) _
              refine XS.ifNo X29.here hx rfl (hb hby at_87) rfl ((if0 _ _).trans (teq ((lw_eq _ _).mpr hc31)).2) ?_
              show Steps p.tables e below (T29.setTop (mkF m 90 _ [])) _
              refine XS.iconst X29.here hx rfl (hb hby at_90) ?_
              show Steps p.tables e below (T29.setTop (mkF m 91 _ [(.int (1 : Int32))])) _
              refine XS.goto X29.here hx rfl (pc0 := 91) (pc' := 95) rfl (hb hby at_91) (by decide) (by decide) ?_
              show Steps p.tables e below (T29.setTop (mkF m 95 #[.val (.long q1), .second, .val (.long q2), .second, .val (.int p3), .val (.int (p3 &&& (3 : Int32))), .val (.long ((((p3 >>> ((2 : Int32) &&& 31)) &&& (3 : Int32)).toInt64) - (1 : Int64))), .second, .val (.long q2), .second] [(.int (1 : Int32))])) _
              exact retN X29 hx (t := .boolean) Bd.returns (by simp) (hb hby at_95) hr
            · show Q0 Z q1 q2 p3 h0 n0 _ T29.heap _
              rw [e29]
              exact ⟨congrArg (fun z => some (Value.int z)) (by rw [f0, if_neg hc5, if_neg hc15, if_neg hc25, if_neg hc27, if_pos hc31] : f0 q1 q2 p3 = (1 : Int32)).symm, N29⟩
          · skip
            obtain ⟨fs, hr, hrun, hended, hW, hsame⟩ := X29.leave (v := some (.int (0 : Int32))) (fun h => by rw [Bd.returns] at h; cases h) (by first | exact BodyLoose.notSynchronized Bd | exact Body.notSynchronized Bd)
            refine ⟨_, _, pre30 _ ?_, hrun, hended, _, _, rfl, ?_, ⟨_, rfl⟩, hW, hsame.mono (by decide) (by decide)⟩
            · show Steps p.tables e below (T29.setTop (mkF m 87 #[.val (.long q1), .second, .val (.long q2), .second, .val (.int p3), .val (.int (p3 &&& (3 : Int32))), .val (.long ((((p3 >>> ((2 : Int32) &&& 31)) &&& (3 : Int32)).toInt64) - (1 : Int64))), .second, .val (.long q2), .second] [(.int (lcmpW (f1 q1 q2) (f2 q1 q2)))])) _
              refine XS.ifYes X29.here hx rfl (pc0 := 87) (pc' := 94) rfl (hb hby at_87) rfl ((if0 _ _).trans (feq (mt (lw_eq _ _).mp hc31)).2) (by decide) (by decide) ?_
              show Steps p.tables e below (T29.setTop (mkF m 94 _ [])) _
              refine XS.iconst X29.here hx rfl (hb hby at_94) ?_
              show Steps p.tables e below (T29.setTop (mkF m 95 #[.val (.long q1), .second, .val (.long q2), .second, .val (.int p3), .val (.int (p3 &&& (3 : Int32))), .val (.long ((((p3 >>> ((2 : Int32) &&& 31)) &&& (3 : Int32)).toInt64) - (1 : Int64))), .second, .val (.long q2), .second] [(.int (0 : Int32))])) _
              exact retN X29 hx (t := .boolean) Bd.returns (by simp) (hb hby at_95) hr
            · show Q0 Z q1 q2 p3 h0 n0 _ T29.heap _
              rw [e29]
              exact ⟨congrArg (fun z => some (Value.int z)) (by rw [f0, if_neg hc5, if_neg hc15, if_neg hc25, if_neg hc27, if_neg hc31] : f0 q1 q2 p3 = (0 : Int32)).symm, N29⟩
theorem own_msb (x : Int64) : decide (x.toInt < 0) = x.toBitVec.msb := (BitVec.msb_eq_toInt (x := x.toBitVec)).symm
theorem own_sign (a b s : Int64) : ((a ^^^ s) &&& (b ^^^ s)) < (0 : Int64) ↔ ((a.toInt < 0 ∧ 0 ≤ s.toInt ∨ 0 ≤ a.toInt ∧ s.toInt < 0) ∧ (b.toInt < 0 ∧ 0 ≤ s.toInt ∨ 0 ≤ b.toInt ∧ s.toInt < 0)) := by
  have k0 : (0 : Int64).toInt = 0 := by decide
  have h : decide (((a ^^^ s) &&& (b ^^^ s)).toInt < 0) = ((decide (a.toInt < 0) ^^ decide (s.toInt < 0)) && (decide (b.toInt < 0) ^^ decide (s.toInt < 0))) := by
    rw [own_msb, own_msb, own_msb, own_msb, Int64.toBitVec_and, Int64.toBitVec_xor, Int64.toBitVec_xor, BitVec.msb_and, BitVec.msb_xor, BitVec.msb_xor]
  rw [Int64.lt_iff_toInt_lt, k0]
  constructor
  · intro q
    rw [decide_eq_true q] at h
    by_cases ha : a.toInt < 0 <;> by_cases hb : b.toInt < 0 <;> by_cases hs : s.toInt < 0 <;> simp [ha, hb, hs] at h <;> omega
  · intro q
    by_cases ha : a.toInt < 0 <;> by_cases hb : b.toInt < 0 <;> by_cases hs : s.toInt < 0 <;> simp [ha, hb, hs] at h <;> omega
theorem own_eq (a b : Int64) : f1 a b = f2 a b := by
  have h1 := c_ladd a b
  have h2 := c_lsub (9223372036854775807 : Int64) b
  have h3 := c_lsub (-9223372036854775808 : Int64) b
  have r1 := rng64 a
  have r2 := rng64 b
  have r3 := rng64 (a + b)
  have r4 := rng64 ((9223372036854775807 : Int64) - b)
  have r5 := rng64 ((-9223372036854775808 : Int64) - b)
  have k0 : (0 : Int64).toInt = 0 := by decide
  have k1 : (9223372036854775807 : Int64).toInt = 9223372036854775807 := by decide
  have k2 : (-9223372036854775808 : Int64).toInt = -9223372036854775808 := by decide
  have hs := own_sign a b (a + b)
  unfold f1 f2
  by_cases h : ((a ^^^ (a + b)) &&& (b ^^^ (a + b))) < (0 : Int64)
  · rw [if_pos h]
    rw [hs] at h
    (repeat' split) <;> first
      | rfl
      | (exfalso
         simp only [Int64.lt_iff_toInt_lt] at *
         omega)
  · rw [if_neg h]
    rw [hs] at h
    (repeat' split) <;> first
      | rfl
      | (exfalso
         simp only [Int64.lt_iff_toInt_lt] at *
         omega)
theorem own_plain (a b : Int64) (k : Int32) : f0 a b k = 1 := by
  unfold f0
  simp only [own_eq, if_true]
  (repeat' split) <;> rfl
set_option maxRecDepth 65536 in
set_option maxHeartbeats 40000000 in
theorem comes_1 {Post : Tables → Env → Array Value → State → Outcome → State → Prop} (hpost : ∀ tb e args s v u, (limb_1_1.after args s (.returned v) u = true ∧ limb_1_2.after args s (.returned v) u = true ∧ True) → FrameEnd s (.returned v) u (Jvm.fieldLocs frame_1_writes args s ++ Jvm.arrayLocs frame_1_arrays args s ++ Jvm.staticLocs frame_1_statics s) 0 0 → Post tb e args s (.returned v) u) :
    ArmFor flags0 classFile x code maxLocals ret World_1 tables_1 room_1 Calls_1 rest_1 Pre_1 Post := by
  intro l hfl _ _ p e ha hc hk s m args below hf hA hF happ hP
  obtain ⟨hcalls, hrest, hpre⟩ := hP
  obtain ⟨-, -, -, hnamed, -, -, -, hat⟩ := (Spec.applies_iff hf).mp happ
  obtain ⟨hg, hn⟩ := and_e (Cond.before_iff.mp (show (Jvm.Cond.and given_1 narrow_1).before args s = true from hpre))
  obtain ⟨gc, hg⟩ := and_e hg
  obtain ⟨gi0, hg⟩ := and_e hg
  obtain ⟨gi1, hg⟩ := and_e hg
  obtain ⟨w0, w1, w2, rfl⟩ : ∃ w0 w1 w2 : Value, args = #[w0, w1, w2] := by
    have hs : args.size = 3 := by simpa [Cond.value, given_1] using gc
    obtain ⟨L⟩ := args
    match L, hs with
    | [w0, w1, w2], _ => exact ⟨w0, w1, w2, rfl⟩
  have hw := fun d (hd : d ∈ tables_1) => atoms_spec (ws := Jvm.Cond.code x code maxLocals ret :: tables_1) hat d (List.mem_cons_of_mem _ hd)
  obtain ⟨i0, ei0⟩ := isL_v gi0
  obtain rfl : w0 = (.long i0) := Option.some.inj ei0
  obtain ⟨i1, ei1⟩ := isL_v gi1
  obtain rfl : w1 = (.long i1) := Option.some.inj ei1
  obtain ⟨i2, ei2⟩ := is_v hg
  obtain rfl : w2 = (.int i2) := Option.some.inj ei2
  obtain ⟨n, o, h1, h2, h3, vr, L, rfl, ⟨hvr, N⟩, hq⟩ := rm0 l s _ hw tables_1 i0 i1 i2 s.heap s.heap.size (Nat.le_refl _)  p e ha hc hk s m _ below hf ((Spec.applies_iff_loose hf).mp happ).1 ⟨rfl, State.Warmed39.refl s, rfl⟩ trivial
  have hpl : f0 i0 i1 i2 = 1 := own_plain i0 i1 i2 
  rw [hpl] at hvr
  subst hvr
  refine ⟨n, _, h1, h2, h3, hpost _ _ _ _ _ _ ⟨Cond.after_iff.mpr rfl, Cond.after_iff.mpr (eq_i res_at (Term.int_eval (1)) rfl), trivial⟩ ⟨hq.1, hq.2.1, (hq.2.2.sift fun y hy => Or.inr (N y hy)).mono (by decide) (by decide)⟩⟩
theorem main_1_1 : Claimed_1_1 := comes_1 fun _ _ _ _ _ _ h hF => ⟨h.1, hF⟩
theorem main_1_2 : Claimed_1_2 := comes_1 fun _ _ _ _ _ _ h hF => ⟨h.2.1, hF⟩

end Jvm.Pilot.@@N@@
namespace Jvm.Pilot.@@N@@
open Jvm Jvm.ClassFile Sem Op Lib Jvm.Free Jvm.Stand Jvm.Pilot.@@N@@.Jvm.D
/-! MADE BY PROGRAM (witnessworld.py) out of the Statement's table words and the real class files: 9 classes; the members and pool entries that the words name. The judged class is class 1, her method 2. -/
namespace start1
open Jvm.ClassFile
def u (s : String) : CpInfo := .utf8 (stringToUtf16 s)
/-- a pool by its gaps: so many unusable entries, then the entry; so many at the end -/
def gap : Nat → List CpInfo → List CpInfo
  | 0, r => r
  | n + 1, r => .unusable :: gap n r
def poolList (es : List (Nat × CpInfo)) (last : Nat) : List CpInfo := es.foldr (fun e r => gap e.1 (e.2 :: r)) (gap last [])
def pool (es : List (Nat × CpInfo)) (last : Nat) : Array CpInfo := ⟨poolList es last⟩
def fileOf (pool : Array CpInfo) (this : Nat) (attrs : Array Attribute := #[]) (ms : Array MethodInfo := #[]) (fl : Nat := 33) (sup : Nat := 0) (ifs : Array Nat := #[]) (fds : Array FieldInfo := #[]) : ClassFile where
  minorVersion := 0
  majorVersion := 65
  constantPool := pool
  accessFlags := fl
  thisClass := this
  superClass := sup
  interfaces := ifs
  fields := fds
  methods := ms
  attributes := attrs
def plain (name : String) (sup : Option ClassId) : Class where
  name := name
  kind := .ordinary
  loader := none
  accessFlags := 33
  super := sup
  interfaces := #[]
  cf := none
  fields := #[]
  methods := #[]
  instanceTypes := #[]
  staticTypes := #[]
  resolved := #[]
  callSites := []
  init := .initialized
  statics := none
  mirror := none

def pool0 : Array CpInfo := pool [(5, u "<init>"), (0, u "()V"), (1, .class_ 10), (1, u "java/lang/Object")] 113

def k0m0 : Method := { name := "<init>", desc := "()V", sig := { parameters := [], returnType := none }, accessFlags := 1, code := none }
/-- java/lang/Object -/
def k0 : Class := { plain "java/lang/Object" none with
  accessFlags := 33
  interfaces := #[]
  cf := some (fileOf pool0 8 #[] #[{ accessFlags := 1, nameIndex := 5, descriptorIndex := 6, attributes := #[] }] 33 0 #[] #[])
  fields := #[]
  methods := #[k0m0]
  instanceTypes := #[]
  staticTypes := #[]
  resolved := Array.replicate 124 none
  statics := none }

def pool1 : Array CpInfo := pool [(2, .class_ 4), (1, u "java/lang/Object"), (0, u "<init>"), (0, u "()V"), (2, .long 9223372036854775807), (1, .long 9223372036854775808), (1, .methodref 14 15), (0, .class_ 16), (0, .nameAndType 17 18), (0, u "com/example/creditree/creditree/Money"), (0, u "plusCents"), (0, u "(JJ)J"), (0, .methodref 20 21), (0, .class_ 22), (0, .nameAndType 23 18), (0, u "com/example/creditree/creditree/MoneyPlusCentsPinLaw"), (0, u "expected"), (3, u "law"), (0, u "(JJI)Z")] 2

def k1m0 : Method := { name := "<init>", desc := "()V", sig := { parameters := [], returnType := none }, accessFlags := 2, code := none }
def k1c1 : Code := { maxStack := 6, maxLocals := 5, code := method_2_code, exceptionTable := #[], attributes := #[] }
def k1m1 : Method := { name := "expected", desc := "(JJ)J", sig := { parameters := [.long, .long], returnType := some .long }, accessFlags := 10, code := some k1c1 }
def k1c2 : Code := { maxStack := 6, maxLocals := 10, code := code, exceptionTable := #[], attributes := #[] }
def k1m2 : Method := { name := "law", desc := "(JJI)Z", sig := { parameters := [.long, .long, .int], returnType := some .boolean }, accessFlags := 9, code := some k1c2 }
/-- com/example/creditree/creditree/MoneyPlusCentsPinLaw -/
def k1 : Class := { plain "com/example/creditree/creditree/MoneyPlusCentsPinLaw" (some 0) with
  accessFlags := 49
  interfaces := #[]
  cf := some (fileOf pool1 20 #[] #[{ accessFlags := 2, nameIndex := 5, descriptorIndex := 6, attributes := #[] }, { accessFlags := 10, nameIndex := 23, descriptorIndex := 18, attributes := #[] }, { accessFlags := 9, nameIndex := 27, descriptorIndex := 28, attributes := #[] }] 49 2 #[] #[])
  fields := #[]
  methods := #[k1m0, k1m1, k1m2]
  instanceTypes := #[]
  staticTypes := #[]
  resolved := Array.replicate 31 none
  statics := none }

def pool2 : Array CpInfo := pool [(4, .class_ 6), (1, u "java/lang/Object"), (0, u "<init>"), (0, u "()V"), (1, .class_ 12), (1, u "com/example/creditree/creditree/Money"), (46, .long 9223372036854775808), (7, u "ROUNDING"), (0, u "Ljava/math/RoundingMode;"), (6, u "HALF"), (0, u "Ljava/math/BigDecimal;"), (18, u "(JJ)J"), (69, u "ZERO"), (4, u "MAX_AMOUNT"), (2, u "POWERS_OF_TEN"), (0, u "[J"), (9, u "TOO_LARGE"), (0, u "J"), (1, u "CENT_SCALE"), (0, u "I"), (1, u "HUNDREDTHS_PER_WHOLE"), (6, u "plusCents")] 34

def k2m0 : Method := { name := "<init>", desc := "()V", sig := { parameters := [], returnType := none }, accessFlags := 2, code := none }
def k2c1 : Code := { maxStack := 6, maxLocals := 6, code := prog_76_method_6_code, exceptionTable := #[], attributes := #[] }
def k2m1 : Method := { name := "plusCents", desc := "(JJ)J", sig := { parameters := [.long, .long], returnType := some .long }, accessFlags := 8, code := some k2c1 }
/-- com/example/creditree/creditree/Money -/
def k2 : Class := { plain "com/example/creditree/creditree/Money" (some 0) with
  accessFlags := 48
  interfaces := #[]
  cf := some (fileOf pool2 10 #[] #[{ accessFlags := 2, nameIndex := 7, descriptorIndex := 8, attributes := #[] }, { accessFlags := 8, nameIndex := 197, descriptorIndex := 95, attributes := #[] }] 48 4 #[] #[{ accessFlags := 24, nameIndex := 165, descriptorIndex := 76, attributes := #[] }, { accessFlags := 24, nameIndex := 170, descriptorIndex := 76, attributes := #[] }, { accessFlags := 24, nameIndex := 184, descriptorIndex := 185, attributes := #[] }, { accessFlags := 26, nameIndex := 187, descriptorIndex := 188, attributes := #[] }, { accessFlags := 26, nameIndex := 190, descriptorIndex := 185, attributes := #[] }, { accessFlags := 24, nameIndex := 173, descriptorIndex := 174, attributes := #[] }, { accessFlags := 26, nameIndex := 67, descriptorIndex := 68, attributes := #[] }, { accessFlags := 26, nameIndex := 75, descriptorIndex := 76, attributes := #[] }])
  fields := #[{ name := "ZERO", type := (.object "java/math/BigDecimal"), accessFlags := 24, slot := 0, constantValue := 0 }, { name := "MAX_AMOUNT", type := (.object "java/math/BigDecimal"), accessFlags := 24, slot := 1, constantValue := 0 }, { name := "TOO_LARGE", type := .long, accessFlags := 24, slot := 2, constantValue := 0 }, { name := "CENT_SCALE", type := .int, accessFlags := 26, slot := 3, constantValue := 0 }, { name := "HUNDREDTHS_PER_WHOLE", type := .long, accessFlags := 26, slot := 4, constantValue := 0 }, { name := "POWERS_OF_TEN", type := (.array .long), accessFlags := 24, slot := 5, constantValue := 0 }, { name := "ROUNDING", type := (.object "java/math/RoundingMode"), accessFlags := 26, slot := 6, constantValue := 0 }, { name := "HALF", type := (.object "java/math/BigDecimal"), accessFlags := 26, slot := 7, constantValue := 0 }]
  methods := #[k2m0, k2m1]
  instanceTypes := #[]
  staticTypes := #[(.object "java/math/BigDecimal"), (.object "java/math/BigDecimal"), .long, .int, .long, (.array .long), (.object "java/math/RoundingMode"), (.object "java/math/BigDecimal")]
  resolved := Array.replicate 232 none
  statics := none }

def pool3 : Array CpInfo := pool [(1, u "java/lang/Cloneable"), (0, .class_ 1), (0, u "java/lang/Object"), (0, .class_ 3)] 3

/-- java/lang/Cloneable -/
def k3 : Class := { plain "java/lang/Cloneable" (some 0) with
  accessFlags := 1537
  interfaces := #[]
  cf := some (fileOf pool3 2 #[] #[] 1537 4 #[] #[])
  fields := #[]
  methods := #[]
  instanceTypes := #[]
  staticTypes := #[]
  resolved := Array.replicate 8 none
  statics := none }

def pool4 : Array CpInfo := pool [(1, u "java/io/Serializable"), (0, .class_ 1), (0, u "java/lang/Object"), (0, .class_ 3)] 3

/-- java/io/Serializable -/
def k4 : Class := { plain "java/io/Serializable" (some 0) with
  accessFlags := 1537
  interfaces := #[]
  cf := some (fileOf pool4 2 #[] #[] 1537 4 #[] #[])
  fields := #[]
  methods := #[]
  instanceTypes := #[]
  staticTypes := #[]
  resolved := Array.replicate 8 none
  statics := none }

/-- the primitive byte -/
def k5 : Class := { plain "byte" none with kind := .primitive 'B', accessFlags := 0x411 }
/-- [B -/
def k6 : Class := { plain "[B" (some 0) with kind := .array 5 .byte, interfaces := #[3, 4], accessFlags := 1041 }

/-- the primitive int -/
def k7 : Class := { plain "int" none with kind := .primitive 'I', accessFlags := 0x411 }
/-- [I -/
def k8 : Class := { plain "[I" (some 0) with kind := .array 7 .int, interfaces := #[3, 4], accessFlags := 1041 }

def heap : Heap := #[]
def classes : Array Class := #[k0, k1, k2, k3, k4, k5, k6, k7, k8]
def interned : List (Array UInt16 × Addr) := []
def slotsUsed : Nat := 0
def theMethod : MethodId := ⟨1, 2⟩
def args0 : Array Value := #[.long 5, .long 7, .int 1]
def aboutOver (below : List Frame) : State where
  vm := { classes := classes, interned := interned.toArray }
  heap := heap
  slotsUsed := slotsUsed
  threads := #[{ frames := .invoking theMethod args0 :: below }]
def below0 : List Frame := [.native { method := ⟨0, 0⟩, args := #[] }]
def about1 : State := aboutOver below0
def p0 : Program := .bare "" "" ""
def e0 : Env := launch0.env 0 0 0
theorem w_frames : about1.frames = Frame.invoking theMethod args0 :: below0 := rfl
set_option maxRecDepth 65536 in
theorem w_args : argsFit about1.vm theMethod args0 = true := by decide +kernel
set_option maxRecDepth 65536 in
theorem w_heap : heapFits about1 = true := by decide +kernel
set_option maxRecDepth 65536 in
theorem w_runnable : about1.curStatus? = some .runnable := by decide +kernel
set_option maxRecDepth 65536 in
theorem w_alone : about1.alone = true := by decide +kernel
set_option maxRecDepth 65536 in
theorem w_named : about1.methodNamed? x = some theMethod := by decide +kernel
set_option maxRecDepth 65536 in
theorem w_hears : about1.hears theMethod below0 = true := by decide +kernel
set_option maxRecDepth 65536 in
theorem w_ripe : about1.ripe theMethod args0 below0 = true := by decide +kernel
theorem w_running : about1.status = .running := rfl
set_option maxRecDepth 65536 in
theorem w_room : about1.hasRoom e0.platform room_1 = true :=
  launch0.hasRoom_least _ room_1 (by decide +kernel) (by decide +kernel) (by decide +kernel) (by decide +kernel) (by decide +kernel) (by decide +kernel)
theorem allAtoms_all (ts : List Jvm.Cond) (a : Array Jvm.Value) (st : Jvm.State) : (allAtoms ts).before a st = ts.all (fun c => c.before a st) := by
  induction ts with
  | nil => rfl
  | cons c t ih =>
    show (Jvm.Cond.and c (allAtoms t)).before a st = _
    rw [Jvm.Cond.before_and, ih, List.all_cons]
def words1 : List Jvm.Cond := Jvm.Cond.code x code maxLocals ret :: tables_1
/-- a 'code' word, met by the world's own term for the bytes: nothing is compared byte by byte -/
theorem code_word {y : MethodName} {bytes : ByteArray} {mx : Nat} {rt : Option FieldType} {a : Array Value} {s : State} {m : MethodId} {meth : Method} {c : Code} (h1 : s.methodNamed? y = some m) (h2 : s.vm.method? m = some meth) (h3 : meth.code = some c) (h4 : c.code = bytes)
    (h5 : (c.maxLocals == mx && c.exceptionTable.isEmpty && decide (c.maxStack ≤ mostOperands) && decide (meth.sig.returnType = rt) && !meth.locks && decide (parseMethodDescriptor y.desc = some meth.sig)) = true) : (Jvm.Cond.code y bytes mx rt).before a s = true := by
  simp only [Bool.and_eq_true, beq_iff_eq, Bool.not_eq_true', decide_eq_true_eq] at h5
  obtain ⟨⟨⟨⟨⟨g1, g2⟩, g3⟩, g4⟩, g5⟩, g6⟩ := h5
  simp [Cond.before, Cond.holds, Cond.value, h1, h2, h3, h4, g1, g2, g3, g4, g5, g6]
def isCode : Jvm.Cond → Bool
  | .code _ _ _ _ => true
  | _ => false
theorem all_split {L : List Jvm.Cond} {P : Jvm.Cond → Bool} (h1 : L.all (fun c => isCode c || P c) = true) (h2 : ∀ c ∈ L.filter isCode, P c = true) : L.all P = true := by
  refine List.all_eq_true.mpr fun c hc => ?_
  have h := List.all_eq_true.mp h1 c hc
  rcases Bool.eq_false_or_eq_true (isCode c) with hi | hi
  · exact h2 c (List.mem_filter.mpr ⟨hc, hi⟩)
  · simpa [hi] using h
set_option maxRecDepth 65536 in
theorem w_c0 : (Jvm.Cond.code x code maxLocals ret).before args0 about1 = true := code_word (m := ⟨1, 2⟩) (meth := k1m2) (c := k1c2) (by decide +kernel) rfl rfl rfl (by decide +kernel)
set_option maxRecDepth 65536 in
theorem w_c1 : (Jvm.Cond.code ({ cls := "com/example/creditree/creditree/Money", name := "plusCents", desc := "(JJ)J" } : Jvm.MethodName) prog_76_method_6_code (6 : Nat) (Option.some Jvm.ClassFile.FieldType.long)).before args0 about1 = true := code_word (m := ⟨2, 1⟩) (meth := k2m1) (c := k2c1) (by decide +kernel) rfl rfl rfl (by decide +kernel)
set_option maxRecDepth 65536 in
theorem w_c2 : (Jvm.Cond.code ({ cls := "com/example/creditree/creditree/MoneyPlusCentsPinLaw", name := "expected", desc := "(JJ)J" } : Jvm.MethodName) method_2_code (5 : Nat) (Option.some Jvm.ClassFile.FieldType.long)).before args0 about1 = true := code_word (m := ⟨1, 1⟩) (meth := k1m1) (c := k1c1) (by decide +kernel) rfl rfl rfl (by decide +kernel)
def codes1 : List Jvm.Cond := [Jvm.Cond.code x code maxLocals ret, Jvm.Cond.code ({ cls := "com/example/creditree/creditree/Money", name := "plusCents", desc := "(JJ)J" } : Jvm.MethodName) prog_76_method_6_code (6 : Nat) (Option.some Jvm.ClassFile.FieldType.long), Jvm.Cond.code ({ cls := "com/example/creditree/creditree/MoneyPlusCentsPinLaw", name := "expected", desc := "(JJ)J" } : Jvm.MethodName) method_2_code (5 : Nat) (Option.some Jvm.ClassFile.FieldType.long)]
set_option maxRecDepth 65536 in
theorem codes_eq : words1.filter isCode = codes1 := rfl
theorem w_codes : ∀ c ∈ words1.filter isCode, c.before args0 about1 = true := by
  rw [codes_eq]
  intro c hc
  simp only [codes1, List.mem_cons, List.not_mem_nil, or_false] at hc
  rcases hc with rfl | rfl | rfl
  · exact w_c0
  · exact w_c1
  · exact w_c2
set_option maxRecDepth 65536 in
theorem w_t1 : words1.all (fun c => isCode c || c.before args0 about1) = true := by decide +kernel
theorem w_tables : (allAtoms (Jvm.Cond.code x code maxLocals ret :: tables_1)).before args0 about1 = true := by
  rw [allAtoms_all]
  show words1.all (fun c => c.before args0 about1) = true
  refine all_split ?_ w_codes
  rw [w_t1]
set_option maxRecDepth 65536 in
theorem w_case : (Jvm.Cond.and given_1 narrow_1).before args0 about1 = true := by decide +kernel
theorem w_applies : (headSpec (Jvm.Cond.code x code maxLocals ret :: tables_1) room_1).applies x e0.platform about1 = true :=
  (Spec.applies_iff w_frames).mpr ⟨w_running, w_runnable, w_alone, w_named, w_hears, w_ripe, w_room, w_tables⟩
theorem atStart : AtStart classFile x code maxLocals ret World_1 tables_1 room_1 Calls_1 rest_1 Pre_1 launch0 p0 e0 about1 theMethod args0 below0 :=
  ⟨lists_1, trivial, launch0.admits_env _ _ _, launch0.least_env, fairChoices_fair.cas, fairChoices_fair.clock, w_frames, w_args, w_heap, w_applies, trivial, trivial, w_case⟩
end start1
theorem witness_1 : WitnessClaimed_1 := ⟨start1.p0, start1.e0, start1.about1, start1.theMethod, start1.args0, start1.below0, start1.atStart⟩
end Jvm.Pilot.@@N@@
