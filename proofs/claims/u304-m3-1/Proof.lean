import JvmDerived
import JvmDerived.Pilot.@@N@@Statement
import JvmDerived.Pilot.@@N@@Code
set_option linter.unusedVariables false
set_option linter.unusedSimpArgs false
@@BLOCK:NumsL.lean.txt@@
namespace Jvm.RoadKit
open Sem ClassFile Op Lib Jvm.Stand Jvm.Free Jvm.LawKit
section New
variable {p : Program} {l : Launch} {e : Env} {R : Room} {s : State} {m : MethodId} {args : Array Value} {below : List Frame} {meth : Method} {c : Code} {T : State} {locs : List Loc} {cells slots : Nat}
theorem retI (X : Stand p l e R s m args below meth c T locs cells slots) (hx : p.tables.exec = Jvm.exec) {pc : Nat} {Ls : Array Slot} {z : Int32} {rest : List Value} (hret : meth.sig.returnType = some .int) (hd : decode c.code pc = .ok (.ireturn, 1)) {fs : List Frame}
    (hl : ∀ (f : JFrame) (acts : List Action), f.method = m → f.locked = none → f.entered = [] → (doReturn e (T.setTop f) acts (some (.int z))).1 = T.setFrames fs) : Steps p.tables e below (T.setTop (mkF m pc Ls (.int z :: rest))) (T.setFrames fs) := by
  have hm' : T.vm.method? m = some meth := X.method'
  have hn : narrow .int (.int z) = .int z := rfl
  show Steps p.tables e below (T.setTop { method := m, pc := pc, locals := Ls, stack := _ :: rest, locked := none }) _
  jvm_step X.here [X.here.top, hx, hd, hm', hret, hn]
  first | (intro acts; rw [hl _ acts rfl rfl rfl]) | rw [hl _ _ rfl rfl rfl]
  exact Steps.refl _
end New
end Jvm.RoadKit
namespace Jvm.Pilot.@@N@@
open Jvm Jvm.ClassFile Sem Op Lib Jvm.Free Jvm.Stand Jvm.LawKit Jvm.RoadKit Bundle Jvm.Pilot.@@N@@.Jvm.D
theorem own_nz_J {x : Int64} (h : (0 : Int64) < x) : ¬ (x = (0 : Int64)) := by rintro rfl; exact absurd h (by decide)
theorem own_nz_I {x : Int32} (h : (0 : Int32) < x) : ¬ (x = (0 : Int32)) := by rintro rfl; exact absurd h (by decide)
theorem own_fld {s : State} {args : Array Value} {tt : Term} {a : Addr} {C n d : String} {k : Int32} (ev : tt.eval args s none [] s = some (.ref a)) (h : (Jvm.Cond.eq (.field tt C n d) (.int k)).value args s none s [] = some true) : Fld s s.heap a C n d (.int k) := by
  obtain ⟨u, v, hu, hv, k1, k2⟩ := cmp_v (Or.inl h)
  have hv' : v = .int k := (Option.some.inj (hv.symm.trans (Term.int_eval k)))
  subst hv'
  obtain ⟨z, rfl⟩ := k2
  have hz := gotT (Cond.eq_ints hu hv) h
  subst hz
  exact Fld.start (by rw [← fld_at ev]; exact hu)
def own_at (vs : List Int32) (j : Int32) : Int32 := vs.getD j.toNatClampNeg 0
def own_atL (vs : List Int64) (j : Int32) : Int64 := vs.getD j.toNatClampNeg 0
theorem own_getD (vs : List Int32) (j : Int32) : (vs.map Value.int).getD j.toNatClampNeg (.int (0 : Int32)) = .int (own_at vs j) := by
  unfold own_at
  generalize j.toNatClampNeg = k
  induction vs generalizing k with
  | nil => rfl
  | cons a t ih => cases k with
    | zero => rfl
    | succ k => simpa using ih k
theorem own_getDL (vs : List Int64) (j : Int32) : (vs.map Value.long).getD j.toNatClampNeg (.long (0 : Int64)) = .long (own_atL vs j) := by
  unfold own_atL
  generalize j.toNatClampNeg = k
  induction vs generalizing k with
  | nil => rfl
  | cons a t ih => cases k with
    | zero => rfl
    | succ k => simpa using ih k
theorem d1_0 : decode method_2_code 0 = .ok (.ldc2_w 9, 3) := by decide +kernel
theorem d1_3 : decode method_2_code 3 = .ok (.lstore 4, 2) := by decide +kernel
theorem d1_5 : decode method_2_code 5 = .ok (.lload_n 0, 1) := by decide +kernel
theorem d1_6 : decode method_2_code 6 = .ok (.bipush 32, 2) := by decide +kernel
theorem d1_8 : decode method_2_code 8 = .ok (.lushr, 1) := by decide +kernel
theorem d1_9 : decode method_2_code 9 = .ok (.lstore 6, 2) := by decide +kernel
theorem d1_11 : decode method_2_code 11 = .ok (.lload_n 0, 1) := by decide +kernel
theorem d1_12 : decode method_2_code 12 = .ok (.ldc2_w 11, 3) := by decide +kernel
theorem d1_15 : decode method_2_code 15 = .ok (.land, 1) := by decide +kernel
theorem d1_16 : decode method_2_code 16 = .ok (.lstore 8, 2) := by decide +kernel
theorem d1_18 : decode method_2_code 18 = .ok (.lload_n 2, 1) := by decide +kernel
theorem d1_19 : decode method_2_code 19 = .ok (.bipush 32, 2) := by decide +kernel
theorem d1_21 : decode method_2_code 21 = .ok (.lushr, 1) := by decide +kernel
theorem d1_22 : decode method_2_code 22 = .ok (.lstore 10, 2) := by decide +kernel
theorem d1_24 : decode method_2_code 24 = .ok (.lload_n 2, 1) := by decide +kernel
theorem d1_25 : decode method_2_code 25 = .ok (.ldc2_w 11, 3) := by decide +kernel
theorem d1_28 : decode method_2_code 28 = .ok (.land, 1) := by decide +kernel
theorem d1_29 : decode method_2_code 29 = .ok (.lstore 12, 2) := by decide +kernel
theorem d1_31 : decode method_2_code 31 = .ok (.lload 6, 2) := by decide +kernel
theorem d1_33 : decode method_2_code 33 = .ok (.lconst 0, 1) := by decide +kernel
theorem d1_34 : decode method_2_code 34 = .ok (.lcmp, 1) := by decide +kernel
theorem d1_35 : decode method_2_code 35 = .ok (.ifCond .eq 13, 3) := by decide +kernel
theorem d1_38 : decode method_2_code 38 = .ok (.lload 10, 2) := by decide +kernel
theorem d1_40 : decode method_2_code 40 = .ok (.lconst 0, 1) := by decide +kernel
theorem d1_41 : decode method_2_code 41 = .ok (.lcmp, 1) := by decide +kernel
theorem d1_42 : decode method_2_code 42 = .ok (.ifCond .eq 6, 3) := by decide +kernel
theorem d1_45 : decode method_2_code 45 = .ok (.lload 4, 2) := by decide +kernel
theorem d1_47 : decode method_2_code 47 = .ok (.lreturn, 1) := by decide +kernel
theorem d1_48 : decode method_2_code 48 = .ok (.lload 6, 2) := by decide +kernel
theorem d1_50 : decode method_2_code 50 = .ok (.lload 12, 2) := by decide +kernel
theorem d1_52 : decode method_2_code 52 = .ok (.lmul, 1) := by decide +kernel
theorem d1_53 : decode method_2_code 53 = .ok (.lload 8, 2) := by decide +kernel
theorem d1_55 : decode method_2_code 55 = .ok (.lload 10, 2) := by decide +kernel
theorem d1_57 : decode method_2_code 57 = .ok (.lmul, 1) := by decide +kernel
theorem d1_58 : decode method_2_code 58 = .ok (.ladd, 1) := by decide +kernel
theorem d1_59 : decode method_2_code 59 = .ok (.lstore 14, 2) := by decide +kernel
theorem d1_61 : decode method_2_code 61 = .ok (.lload 14, 2) := by decide +kernel
theorem d1_63 : decode method_2_code 63 = .ok (.ldc2_w 13, 3) := by decide +kernel
theorem d1_66 : decode method_2_code 66 = .ok (.lcmp, 1) := by decide +kernel
theorem d1_67 : decode method_2_code 67 = .ok (.ifCond .lt 6, 3) := by decide +kernel
theorem d1_70 : decode method_2_code 70 = .ok (.lload 4, 2) := by decide +kernel
theorem d1_72 : decode method_2_code 72 = .ok (.lreturn, 1) := by decide +kernel
theorem d1_73 : decode method_2_code 73 = .ok (.lload 8, 2) := by decide +kernel
theorem d1_75 : decode method_2_code 75 = .ok (.lload 12, 2) := by decide +kernel
theorem d1_77 : decode method_2_code 77 = .ok (.lmul, 1) := by decide +kernel
theorem d1_78 : decode method_2_code 78 = .ok (.lstore 16, 2) := by decide +kernel
theorem d1_80 : decode method_2_code 80 = .ok (.lload 16, 2) := by decide +kernel
theorem d1_82 : decode method_2_code 82 = .ok (.lconst 0, 1) := by decide +kernel
theorem d1_83 : decode method_2_code 83 = .ok (.lcmp, 1) := by decide +kernel
theorem d1_84 : decode method_2_code 84 = .ok (.ifCond .ge 6, 3) := by decide +kernel
theorem d1_87 : decode method_2_code 87 = .ok (.lload 4, 2) := by decide +kernel
theorem d1_89 : decode method_2_code 89 = .ok (.lreturn, 1) := by decide +kernel
theorem d1_90 : decode method_2_code 90 = .ok (.lload 14, 2) := by decide +kernel
theorem d1_92 : decode method_2_code 92 = .ok (.bipush 32, 2) := by decide +kernel
theorem d1_94 : decode method_2_code 94 = .ok (.lshl, 1) := by decide +kernel
theorem d1_95 : decode method_2_code 95 = .ok (.lload 16, 2) := by decide +kernel
theorem d1_97 : decode method_2_code 97 = .ok (.ladd, 1) := by decide +kernel
theorem d1_98 : decode method_2_code 98 = .ok (.lstore 18, 2) := by decide +kernel
theorem d1_100 : decode method_2_code 100 = .ok (.lload 18, 2) := by decide +kernel
theorem d1_102 : decode method_2_code 102 = .ok (.lconst 0, 1) := by decide +kernel
theorem d1_103 : decode method_2_code 103 = .ok (.lcmp, 1) := by decide +kernel
theorem d1_104 : decode method_2_code 104 = .ok (.ifCond .ge 6, 3) := by decide +kernel
theorem d1_107 : decode method_2_code 107 = .ok (.lload 4, 2) := by decide +kernel
theorem d1_109 : decode method_2_code 109 = .ok (.lreturn, 1) := by decide +kernel
theorem d1_110 : decode method_2_code 110 = .ok (.lload 18, 2) := by decide +kernel
theorem d1_112 : decode method_2_code 112 = .ok (.lreturn, 1) := by decide +kernel
theorem pn_1 : plainName "com/example/boundsmith/boundsmith/internal/CountTimesPinLaw" = true := by first | (simp [plainName, overriddenIn]; done) | decide +kernel
theorem ef_1 (m : MethodId) (x0 : Int64) (x1 : Int64) : entryFrame m #[(.long x0), (.long x1)] 20 = mkF m 0 #[.val (.long x0), .second, .val (.long x1), .second, .unset, .unset, .unset, .unset, .unset, .unset, .unset, .unset, .unset, .unset, .unset, .unset, .unset, .unset, .unset, .unset] [] := by first | (simp [entryFrame, mkF, argsToLocals, Value.category]; done) | rfl
def f1 (q1 : Int64) (q2 : Int64) : Int64 := (if ((q1.toUInt64 >>> ((32 : Int32) &&& 0x3f).toInt64.toUInt64).toInt64) = (0 : Int64) then (if ((((q1.toUInt64 >>> ((32 : Int32) &&& 0x3f).toInt64.toUInt64).toInt64) * (q2 &&& (4294967295 : Int64))) + ((q1 &&& (4294967295 : Int64)) * ((q2.toUInt64 >>> ((32 : Int32) &&& 0x3f).toInt64.toUInt64).toInt64))) < (2147483648 : Int64) then (if ((q1 &&& (4294967295 : Int64)) * (q2 &&& (4294967295 : Int64))) < (0 : Int64) then (9223372036854775807 : Int64) else (if ((((((q1.toUInt64 >>> ((32 : Int32) &&& 0x3f).toInt64.toUInt64).toInt64) * (q2 &&& (4294967295 : Int64))) + ((q1 &&& (4294967295 : Int64)) * ((q2.toUInt64 >>> ((32 : Int32) &&& 0x3f).toInt64.toUInt64).toInt64))) <<< ((32 : Int32) &&& 0x3f).toInt64) + ((q1 &&& (4294967295 : Int64)) * (q2 &&& (4294967295 : Int64)))) < (0 : Int64) then (9223372036854775807 : Int64) else ((((((q1.toUInt64 >>> ((32 : Int32) &&& 0x3f).toInt64.toUInt64).toInt64) * (q2 &&& (4294967295 : Int64))) + ((q1 &&& (4294967295 : Int64)) * ((q2.toUInt64 >>> ((32 : Int32) &&& 0x3f).toInt64.toUInt64).toInt64))) <<< ((32 : Int32) &&& 0x3f).toInt64) + ((q1 &&& (4294967295 : Int64)) * (q2 &&& (4294967295 : Int64)))))) else (9223372036854775807 : Int64)) else (if ((q2.toUInt64 >>> ((32 : Int32) &&& 0x3f).toInt64.toUInt64).toInt64) = (0 : Int64) then (if ((((q1.toUInt64 >>> ((32 : Int32) &&& 0x3f).toInt64.toUInt64).toInt64) * (q2 &&& (4294967295 : Int64))) + ((q1 &&& (4294967295 : Int64)) * ((q2.toUInt64 >>> ((32 : Int32) &&& 0x3f).toInt64.toUInt64).toInt64))) < (2147483648 : Int64) then (if ((q1 &&& (4294967295 : Int64)) * (q2 &&& (4294967295 : Int64))) < (0 : Int64) then (9223372036854775807 : Int64) else (if ((((((q1.toUInt64 >>> ((32 : Int32) &&& 0x3f).toInt64.toUInt64).toInt64) * (q2 &&& (4294967295 : Int64))) + ((q1 &&& (4294967295 : Int64)) * ((q2.toUInt64 >>> ((32 : Int32) &&& 0x3f).toInt64.toUInt64).toInt64))) <<< ((32 : Int32) &&& 0x3f).toInt64) + ((q1 &&& (4294967295 : Int64)) * (q2 &&& (4294967295 : Int64)))) < (0 : Int64) then (9223372036854775807 : Int64) else ((((((q1.toUInt64 >>> ((32 : Int32) &&& 0x3f).toInt64.toUInt64).toInt64) * (q2 &&& (4294967295 : Int64))) + ((q1 &&& (4294967295 : Int64)) * ((q2.toUInt64 >>> ((32 : Int32) &&& 0x3f).toInt64.toUInt64).toInt64))) <<< ((32 : Int32) &&& 0x3f).toInt64) + ((q1 &&& (4294967295 : Int64)) * (q2 &&& (4294967295 : Int64)))))) else (9223372036854775807 : Int64)) else (9223372036854775807 : Int64)))
def Q1 (Z : State) (q1 : Int64) (q2 : Int64) (h0 : Heap) (n0 : Nat) (v : Option Value) (h : Heap) (L : List Loc) : Prop := v = some (.long (f1 q1 q2)) ∧ Fr n0 L ∧ h = h0
set_option maxRecDepth 65536 in
set_option maxHeartbeats 40000000 in
theorem rm1 (l : Launch) (Z : State) (a0 : Array Value) (hw : ∀ d ∈ tables_1, d.before a0 Z = true) (ws : List Jvm.Cond) (q1 : Int64) (q2 : Int64) (h0 : Heap) (n0 : Nat) (Z0 : n0 ≤ h0.size) :
    MetFree l (⟨"com/example/boundsmith/boundsmith/internal/CountTimesPinLaw", "saturatedProduct", "(JJ)J"⟩ : MethodName) (head1 (Jvm.Cond.code (⟨"com/example/boundsmith/boundsmith/internal/CountTimesPinLaw", "saturatedProduct", "(JJ)J"⟩ : MethodName) method_2_code 20 (some .long) :: ws) ({ frames := 0, cells := 0, slots := 0, locals := 0 } : Room)) (fun a U => a = #[(.long q1), (.long q2)] ∧ Z.Warmed39 U.vm ∧ U.heap = h0) (fun _ _ _ _ _ => True) (fun _ U o U' => ∃ v L, o = .returned v ∧ Q1 Z q1 q2 h0 n0 v U'.heap L ∧ FrameEnd U o U' L ({ frames := 0, cells := 0, slots := 0, locals := 0 } : Room).cells ({ frames := 0, cells := 0, slots := 0, locals := 0 } : Room).slots) := by
  refine MetFree.of_bodySF (plainFor_of_name pn_1) hisR ?_
  intro p e s m args below meth c s₁ Bd hml0 hP hK
  obtain ⟨rfl, hZ, hh⟩ := hP
  have hx := Bd.exec
  have hby := Bd.bytes
  have hml : c.maxLocals = 20 := hml0
  have hown : s.vm.findClass "com/example/boundsmith/boundsmith/internal/CountTimesPinLaw" = some m.cls := findClass_of_methodNamed Bd.named
  have hnm := (name_of_methodNamed Bd.named Bd.method).1
  have X0 : Stand p l e ({ frames := 0, cells := 0, slots := 0, locals := 0 } : Room) s m #[(.long q1), (.long q2)] below meth c s₁ [] 0 0 := Stand.of_body Bd
  have e0 : s₁.heap = h0 := by rw [← hh, Bd.state]; rfl
  have N0 := Fr.nil n0
  have pre0 : ∀ t, Steps p.tables e below (s₁.setTop (mkF m 0 #[.val (.long q1), .second, .val (.long q2), .second, .unset, .unset, .unset, .unset, .unset, .unset, .unset, .unset, .unset, .unset, .unset, .unset, .unset, .unset, .unset, .unset] [])) t → Steps p.tables e below (s₁.setTop (entryFrame m #[(.long q1), (.long q2)] 20)) t := fun t k => castTop (ef_1 m q1 q2) k
  have pre3 : ∀ t, Steps p.tables e below (s₁.setTop (mkF m 35 #[.val (.long q1), .second, .val (.long q2), .second, .val (.long (9223372036854775807 : Int64)), .second, .val (.long ((q1.toUInt64 >>> ((32 : Int32) &&& 0x3f).toInt64.toUInt64).toInt64)), .second, .val (.long (q1 &&& (4294967295 : Int64))), .second, .val (.long ((q2.toUInt64 >>> ((32 : Int32) &&& 0x3f).toInt64.toUInt64).toInt64)), .second, .val (.long (q2 &&& (4294967295 : Int64))), .second, .unset, .unset, .unset, .unset, .unset, .unset] [(.int (lcmpW ((q1.toUInt64 >>> ((32 : Int32) &&& 0x3f).toInt64.toUInt64).toInt64) (0 : Int64)))])) t → Steps p.tables e below (s₁.setTop (entryFrame m #[(.long q1), (.long q2)] 20)) t := fun t kt => by
    refine pre0 _ ?_
    show Steps p.tables e below (s₁.setTop (mkF m 0 #[.val (.long q1), .second, .val (.long q2), .second, .unset, .unset, .unset, .unset, .unset, .unset, .unset, .unset, .unset, .unset, .unset, .unset, .unset, .unset, .unset, .unset] [])) _
    refine X0.ldc2Long hx hown (mvT hZ (hw _ (List.mem_of_getElem? (i := 0) rfl))) (g := (mkF m 0 #[.val (.long q1), .second, .val (.long q2), .second, .unset, .unset, .unset, .unset, .unset, .unset, .unset, .unset, .unset, .unset, .unset, .unset, .unset, .unset, .unset, .unset] [])) rfl (hb hby d1_0) _ ?_
    show Steps p.tables e below (s₁.setTop (mkF m 3 _ [(.long (9223372036854775807 : Int64))])) _
    refine XS.lstore X0.here hx rfl (hb hby d1_3) rfl (l' := #[.val (.long q1), .second, .val (.long q2), .second, .val (.long (9223372036854775807 : Int64)), .second, .unset, .unset, .unset, .unset, .unset, .unset, .unset, .unset, .unset, .unset, .unset, .unset, .unset, .unset]) rfl ?_
    show Steps p.tables e below (s₁.setTop (mkF m 5 _ [])) _
    refine XS.lloadN X0.here hx rfl (hb hby d1_5) rfl ?_
    show Steps p.tables e below (s₁.setTop (mkF m 6 _ [(.long q1)])) _
    refine XS.bipush X0.here hx rfl (hb hby d1_6) ?_
    show Steps p.tables e below (s₁.setTop (mkF m 8 _ [(.int (32 : Int32)), (.long q1)])) _
    refine XS.lushr X0.here hx rfl (hb hby d1_8) rfl ?_
    show Steps p.tables e below (s₁.setTop (mkF m 9 _ [(.long ((q1.toUInt64 >>> ((32 : Int32) &&& 0x3f).toInt64.toUInt64).toInt64))])) _
    refine XS.lstore X0.here hx rfl (hb hby d1_9) rfl (l' := #[.val (.long q1), .second, .val (.long q2), .second, .val (.long (9223372036854775807 : Int64)), .second, .val (.long ((q1.toUInt64 >>> ((32 : Int32) &&& 0x3f).toInt64.toUInt64).toInt64)), .second, .unset, .unset, .unset, .unset, .unset, .unset, .unset, .unset, .unset, .unset, .unset, .unset]) rfl ?_
    show Steps p.tables e below (s₁.setTop (mkF m 11 _ [])) _
    refine XS.lloadN X0.here hx rfl (hb hby d1_11) rfl ?_
    show Steps p.tables e below (s₁.setTop (mkF m 12 _ [(.long q1)])) _
    refine X0.ldc2Long hx hown (mvT hZ (hw _ (List.mem_of_getElem? (i := 5) rfl))) (g := (mkF m 12 #[.val (.long q1), .second, .val (.long q2), .second, .val (.long (9223372036854775807 : Int64)), .second, .val (.long ((q1.toUInt64 >>> ((32 : Int32) &&& 0x3f).toInt64.toUInt64).toInt64)), .second, .unset, .unset, .unset, .unset, .unset, .unset, .unset, .unset, .unset, .unset, .unset, .unset] [(.long q1)])) rfl (hb hby d1_12) _ ?_
    show Steps p.tables e below (s₁.setTop (mkF m 15 _ [(.long (4294967295 : Int64)), (.long q1)])) _
    refine XS.land X0.here hx rfl (hb hby d1_15) rfl ?_
    show Steps p.tables e below (s₁.setTop (mkF m 16 _ [(.long (q1 &&& (4294967295 : Int64)))])) _
    refine XS.lstore X0.here hx rfl (hb hby d1_16) rfl (l' := #[.val (.long q1), .second, .val (.long q2), .second, .val (.long (9223372036854775807 : Int64)), .second, .val (.long ((q1.toUInt64 >>> ((32 : Int32) &&& 0x3f).toInt64.toUInt64).toInt64)), .second, .val (.long (q1 &&& (4294967295 : Int64))), .second, .unset, .unset, .unset, .unset, .unset, .unset, .unset, .unset, .unset, .unset]) rfl ?_
    show Steps p.tables e below (s₁.setTop (mkF m 18 _ [])) _
    refine XS.lloadN X0.here hx rfl (hb hby d1_18) rfl ?_
    show Steps p.tables e below (s₁.setTop (mkF m 19 _ [(.long q2)])) _
    refine XS.bipush X0.here hx rfl (hb hby d1_19) ?_
    show Steps p.tables e below (s₁.setTop (mkF m 21 _ [(.int (32 : Int32)), (.long q2)])) _
    refine XS.lushr X0.here hx rfl (hb hby d1_21) rfl ?_
    show Steps p.tables e below (s₁.setTop (mkF m 22 _ [(.long ((q2.toUInt64 >>> ((32 : Int32) &&& 0x3f).toInt64.toUInt64).toInt64))])) _
    refine XS.lstore X0.here hx rfl (hb hby d1_22) rfl (l' := #[.val (.long q1), .second, .val (.long q2), .second, .val (.long (9223372036854775807 : Int64)), .second, .val (.long ((q1.toUInt64 >>> ((32 : Int32) &&& 0x3f).toInt64.toUInt64).toInt64)), .second, .val (.long (q1 &&& (4294967295 : Int64))), .second, .val (.long ((q2.toUInt64 >>> ((32 : Int32) &&& 0x3f).toInt64.toUInt64).toInt64)), .second, .unset, .unset, .unset, .unset, .unset, .unset, .unset, .unset]) rfl ?_
    show Steps p.tables e below (s₁.setTop (mkF m 24 _ [])) _
    refine XS.lloadN X0.here hx rfl (hb hby d1_24) rfl ?_
    show Steps p.tables e below (s₁.setTop (mkF m 25 _ [(.long q2)])) _
    refine X0.ldc2Long hx hown (mvT hZ (hw _ (List.mem_of_getElem? (i := 5) rfl))) (g := (mkF m 25 #[.val (.long q1), .second, .val (.long q2), .second, .val (.long (9223372036854775807 : Int64)), .second, .val (.long ((q1.toUInt64 >>> ((32 : Int32) &&& 0x3f).toInt64.toUInt64).toInt64)), .second, .val (.long (q1 &&& (4294967295 : Int64))), .second, .val (.long ((q2.toUInt64 >>> ((32 : Int32) &&& 0x3f).toInt64.toUInt64).toInt64)), .second, .unset, .unset, .unset, .unset, .unset, .unset, .unset, .unset] [(.long q2)])) rfl (hb hby d1_25) _ ?_
    show Steps p.tables e below (s₁.setTop (mkF m 28 _ [(.long (4294967295 : Int64)), (.long q2)])) _
    refine XS.land X0.here hx rfl (hb hby d1_28) rfl ?_
    show Steps p.tables e below (s₁.setTop (mkF m 29 _ [(.long (q2 &&& (4294967295 : Int64)))])) _
    refine XS.lstore X0.here hx rfl (hb hby d1_29) rfl (l' := #[.val (.long q1), .second, .val (.long q2), .second, .val (.long (9223372036854775807 : Int64)), .second, .val (.long ((q1.toUInt64 >>> ((32 : Int32) &&& 0x3f).toInt64.toUInt64).toInt64)), .second, .val (.long (q1 &&& (4294967295 : Int64))), .second, .val (.long ((q2.toUInt64 >>> ((32 : Int32) &&& 0x3f).toInt64.toUInt64).toInt64)), .second, .val (.long (q2 &&& (4294967295 : Int64))), .second, .unset, .unset, .unset, .unset, .unset, .unset]) rfl ?_
    show Steps p.tables e below (s₁.setTop (mkF m 31 _ [])) _
    refine XS.lload X0.here hx rfl (hb hby d1_31) rfl ?_
    show Steps p.tables e below (s₁.setTop (mkF m 33 _ [(.long ((q1.toUInt64 >>> ((32 : Int32) &&& 0x3f).toInt64.toUInt64).toInt64))])) _
    refine XS.lconst X0.here hx rfl (hb hby d1_33) ?_
    show Steps p.tables e below (s₁.setTop (mkF m 34 _ [(.long (0 : Int64)), (.long ((q1.toUInt64 >>> ((32 : Int32) &&& 0x3f).toInt64.toUInt64).toInt64))])) _
    refine XS.lcmp X0.here hx rfl (hb hby d1_34) rfl ?_
    exact kt
  by_cases hc4 : ((q1.toUInt64 >>> ((32 : Int32) &&& 0x3f).toInt64.toUInt64).toInt64) = (0 : Int64)
  · skip
    have pre5 : ∀ t, Steps p.tables e below (s₁.setTop (mkF m 67 #[.val (.long q1), .second, .val (.long q2), .second, .val (.long (9223372036854775807 : Int64)), .second, .val (.long ((q1.toUInt64 >>> ((32 : Int32) &&& 0x3f).toInt64.toUInt64).toInt64)), .second, .val (.long (q1 &&& (4294967295 : Int64))), .second, .val (.long ((q2.toUInt64 >>> ((32 : Int32) &&& 0x3f).toInt64.toUInt64).toInt64)), .second, .val (.long (q2 &&& (4294967295 : Int64))), .second, .val (.long ((((q1.toUInt64 >>> ((32 : Int32) &&& 0x3f).toInt64.toUInt64).toInt64) * (q2 &&& (4294967295 : Int64))) + ((q1 &&& (4294967295 : Int64)) * ((q2.toUInt64 >>> ((32 : Int32) &&& 0x3f).toInt64.toUInt64).toInt64)))), .second, .unset, .unset, .unset, .unset] [(.int (lcmpW ((((q1.toUInt64 >>> ((32 : Int32) &&& 0x3f).toInt64.toUInt64).toInt64) * (q2 &&& (4294967295 : Int64))) + ((q1 &&& (4294967295 : Int64)) * ((q2.toUInt64 >>> ((32 : Int32) &&& 0x3f).toInt64.toUInt64).toInt64))) (2147483648 : Int64)))])) t → Steps p.tables e below (s₁.setTop (entryFrame m #[(.long q1), (.long q2)] 20)) t := fun t kt => by
      refine pre3 _ ?_
      show Steps p.tables e below (s₁.setTop (mkF m 35 #[.val (.long q1), .second, .val (.long q2), .second, .val (.long (9223372036854775807 : Int64)), .second, .val (.long ((q1.toUInt64 >>> ((32 : Int32) &&& 0x3f).toInt64.toUInt64).toInt64)), .second, .val (.long (q1 &&& (4294967295 : Int64))), .second, .val (.long ((q2.toUInt64 >>> ((32 : Int32) &&& 0x3f).toInt64.toUInt64).toInt64)), .second, .val (.long (q2 &&& (4294967295 : Int64))), .second, .unset, .unset, .unset, .unset, .unset, .unset] [(.int (lcmpW ((q1.toUInt64 >>> ((32 : Int32) &&& 0x3f).toInt64.toUInt64).toInt64) (0 : Int64)))])) _
      refine XS.ifYes X0.here hx rfl (pc0 := 35) (pc' := 48) rfl (hb hby d1_35) rfl ((if0 _ _).trans (teq ((lw_eq _ _).mpr hc4)).1) (by decide) (by decide) ?_
      show Steps p.tables e below (s₁.setTop (mkF m 48 _ [])) _
      refine XS.lload X0.here hx rfl (hb hby d1_48) rfl ?_
      show Steps p.tables e below (s₁.setTop (mkF m 50 _ [(.long ((q1.toUInt64 >>> ((32 : Int32) &&& 0x3f).toInt64.toUInt64).toInt64))])) _
      refine XS.lload X0.here hx rfl (hb hby d1_50) rfl ?_
      show Steps p.tables e below (s₁.setTop (mkF m 52 _ [(.long (q2 &&& (4294967295 : Int64))), (.long ((q1.toUInt64 >>> ((32 : Int32) &&& 0x3f).toInt64.toUInt64).toInt64))])) _
      refine XS.lmul X0.here hx rfl (hb hby d1_52) rfl ?_
      show Steps p.tables e below (s₁.setTop (mkF m 53 _ [(.long (((q1.toUInt64 >>> ((32 : Int32) &&& 0x3f).toInt64.toUInt64).toInt64) * (q2 &&& (4294967295 : Int64))))])) _
      refine XS.lload X0.here hx rfl (hb hby d1_53) rfl ?_
      show Steps p.tables e below (s₁.setTop (mkF m 55 _ [(.long (q1 &&& (4294967295 : Int64))), (.long (((q1.toUInt64 >>> ((32 : Int32) &&& 0x3f).toInt64.toUInt64).toInt64) * (q2 &&& (4294967295 : Int64))))])) _
      refine XS.lload X0.here hx rfl (hb hby d1_55) rfl ?_
      show Steps p.tables e below (s₁.setTop (mkF m 57 _ [(.long ((q2.toUInt64 >>> ((32 : Int32) &&& 0x3f).toInt64.toUInt64).toInt64)), (.long (q1 &&& (4294967295 : Int64))), (.long (((q1.toUInt64 >>> ((32 : Int32) &&& 0x3f).toInt64.toUInt64).toInt64) * (q2 &&& (4294967295 : Int64))))])) _
      refine XS.lmul X0.here hx rfl (hb hby d1_57) rfl ?_
      show Steps p.tables e below (s₁.setTop (mkF m 58 _ [(.long ((q1 &&& (4294967295 : Int64)) * ((q2.toUInt64 >>> ((32 : Int32) &&& 0x3f).toInt64.toUInt64).toInt64))), (.long (((q1.toUInt64 >>> ((32 : Int32) &&& 0x3f).toInt64.toUInt64).toInt64) * (q2 &&& (4294967295 : Int64))))])) _
      refine XS.ladd X0.here hx rfl (hb hby d1_58) rfl ?_
      show Steps p.tables e below (s₁.setTop (mkF m 59 _ [(.long ((((q1.toUInt64 >>> ((32 : Int32) &&& 0x3f).toInt64.toUInt64).toInt64) * (q2 &&& (4294967295 : Int64))) + ((q1 &&& (4294967295 : Int64)) * ((q2.toUInt64 >>> ((32 : Int32) &&& 0x3f).toInt64.toUInt64).toInt64))))])) _
      refine XS.lstore X0.here hx rfl (hb hby d1_59) rfl (l' := #[.val (.long q1), .second, .val (.long q2), .second, .val (.long (9223372036854775807 : Int64)), .second, .val (.long ((q1.toUInt64 >>> ((32 : Int32) &&& 0x3f).toInt64.toUInt64).toInt64)), .second, .val (.long (q1 &&& (4294967295 : Int64))), .second, .val (.long ((q2.toUInt64 >>> ((32 : Int32) &&& 0x3f).toInt64.toUInt64).toInt64)), .second, .val (.long (q2 &&& (4294967295 : Int64))), .second, .val (.long ((((q1.toUInt64 >>> ((32 : Int32) &&& 0x3f).toInt64.toUInt64).toInt64) * (q2 &&& (4294967295 : Int64))) + ((q1 &&& (4294967295 : Int64)) * ((q2.toUInt64 >>> ((32 : Int32) &&& 0x3f).toInt64.toUInt64).toInt64)))), .second, .unset, .unset, .unset, .unset]) rfl ?_
      show Steps p.tables e below (s₁.setTop (mkF m 61 _ [])) _
      refine XS.lload X0.here hx rfl (hb hby d1_61) rfl ?_
      show Steps p.tables e below (s₁.setTop (mkF m 63 _ [(.long ((((q1.toUInt64 >>> ((32 : Int32) &&& 0x3f).toInt64.toUInt64).toInt64) * (q2 &&& (4294967295 : Int64))) + ((q1 &&& (4294967295 : Int64)) * ((q2.toUInt64 >>> ((32 : Int32) &&& 0x3f).toInt64.toUInt64).toInt64))))])) _
      refine X0.ldc2Long hx hown (mvT hZ (hw _ (List.mem_of_getElem? (i := 6) rfl))) (g := (mkF m 63 #[.val (.long q1), .second, .val (.long q2), .second, .val (.long (9223372036854775807 : Int64)), .second, .val (.long ((q1.toUInt64 >>> ((32 : Int32) &&& 0x3f).toInt64.toUInt64).toInt64)), .second, .val (.long (q1 &&& (4294967295 : Int64))), .second, .val (.long ((q2.toUInt64 >>> ((32 : Int32) &&& 0x3f).toInt64.toUInt64).toInt64)), .second, .val (.long (q2 &&& (4294967295 : Int64))), .second, .val (.long ((((q1.toUInt64 >>> ((32 : Int32) &&& 0x3f).toInt64.toUInt64).toInt64) * (q2 &&& (4294967295 : Int64))) + ((q1 &&& (4294967295 : Int64)) * ((q2.toUInt64 >>> ((32 : Int32) &&& 0x3f).toInt64.toUInt64).toInt64)))), .second, .unset, .unset, .unset, .unset] [(.long ((((q1.toUInt64 >>> ((32 : Int32) &&& 0x3f).toInt64.toUInt64).toInt64) * (q2 &&& (4294967295 : Int64))) + ((q1 &&& (4294967295 : Int64)) * ((q2.toUInt64 >>> ((32 : Int32) &&& 0x3f).toInt64.toUInt64).toInt64))))])) rfl (hb hby d1_63) _ ?_
      show Steps p.tables e below (s₁.setTop (mkF m 66 _ [(.long (2147483648 : Int64)), (.long ((((q1.toUInt64 >>> ((32 : Int32) &&& 0x3f).toInt64.toUInt64).toInt64) * (q2 &&& (4294967295 : Int64))) + ((q1 &&& (4294967295 : Int64)) * ((q2.toUInt64 >>> ((32 : Int32) &&& 0x3f).toInt64.toUInt64).toInt64))))])) _
      refine XS.lcmp X0.here hx rfl (hb hby d1_66) rfl ?_
      exact kt
    by_cases hc6 : ((((q1.toUInt64 >>> ((32 : Int32) &&& 0x3f).toInt64.toUInt64).toInt64) * (q2 &&& (4294967295 : Int64))) + ((q1 &&& (4294967295 : Int64)) * ((q2.toUInt64 >>> ((32 : Int32) &&& 0x3f).toInt64.toUInt64).toInt64))) < (2147483648 : Int64)
    · skip
      have pre7 : ∀ t, Steps p.tables e below (s₁.setTop (mkF m 84 #[.val (.long q1), .second, .val (.long q2), .second, .val (.long (9223372036854775807 : Int64)), .second, .val (.long ((q1.toUInt64 >>> ((32 : Int32) &&& 0x3f).toInt64.toUInt64).toInt64)), .second, .val (.long (q1 &&& (4294967295 : Int64))), .second, .val (.long ((q2.toUInt64 >>> ((32 : Int32) &&& 0x3f).toInt64.toUInt64).toInt64)), .second, .val (.long (q2 &&& (4294967295 : Int64))), .second, .val (.long ((((q1.toUInt64 >>> ((32 : Int32) &&& 0x3f).toInt64.toUInt64).toInt64) * (q2 &&& (4294967295 : Int64))) + ((q1 &&& (4294967295 : Int64)) * ((q2.toUInt64 >>> ((32 : Int32) &&& 0x3f).toInt64.toUInt64).toInt64)))), .second, .val (.long ((q1 &&& (4294967295 : Int64)) * (q2 &&& (4294967295 : Int64)))), .second, .unset, .unset] [(.int (lcmpW ((q1 &&& (4294967295 : Int64)) * (q2 &&& (4294967295 : Int64))) (0 : Int64)))])) t → Steps p.tables e below (s₁.setTop (entryFrame m #[(.long q1), (.long q2)] 20)) t := fun t kt => by
        refine pre5 _ ?_
        show Steps p.tables e below (s₁.setTop (mkF m 67 #[.val (.long q1), .second, .val (.long q2), .second, .val (.long (9223372036854775807 : Int64)), .second, .val (.long ((q1.toUInt64 >>> ((32 : Int32) &&& 0x3f).toInt64.toUInt64).toInt64)), .second, .val (.long (q1 &&& (4294967295 : Int64))), .second, .val (.long ((q2.toUInt64 >>> ((32 : Int32) &&& 0x3f).toInt64.toUInt64).toInt64)), .second, .val (.long (q2 &&& (4294967295 : Int64))), .second, .val (.long ((((q1.toUInt64 >>> ((32 : Int32) &&& 0x3f).toInt64.toUInt64).toInt64) * (q2 &&& (4294967295 : Int64))) + ((q1 &&& (4294967295 : Int64)) * ((q2.toUInt64 >>> ((32 : Int32) &&& 0x3f).toInt64.toUInt64).toInt64)))), .second, .unset, .unset, .unset, .unset] [(.int (lcmpW ((((q1.toUInt64 >>> ((32 : Int32) &&& 0x3f).toInt64.toUInt64).toInt64) * (q2 &&& (4294967295 : Int64))) + ((q1 &&& (4294967295 : Int64)) * ((q2.toUInt64 >>> ((32 : Int32) &&& 0x3f).toInt64.toUInt64).toInt64))) (2147483648 : Int64)))])) _
        refine XS.ifYes X0.here hx rfl (pc0 := 67) (pc' := 73) rfl (hb hby d1_67) rfl ((if0 _ _).trans (tlt ((lw_lt _ _).mpr hc6)).1) (by decide) (by decide) ?_
        show Steps p.tables e below (s₁.setTop (mkF m 73 _ [])) _
        refine XS.lload X0.here hx rfl (hb hby d1_73) rfl ?_
        show Steps p.tables e below (s₁.setTop (mkF m 75 _ [(.long (q1 &&& (4294967295 : Int64)))])) _
        refine XS.lload X0.here hx rfl (hb hby d1_75) rfl ?_
        show Steps p.tables e below (s₁.setTop (mkF m 77 _ [(.long (q2 &&& (4294967295 : Int64))), (.long (q1 &&& (4294967295 : Int64)))])) _
        refine XS.lmul X0.here hx rfl (hb hby d1_77) rfl ?_
        show Steps p.tables e below (s₁.setTop (mkF m 78 _ [(.long ((q1 &&& (4294967295 : Int64)) * (q2 &&& (4294967295 : Int64))))])) _
        refine XS.lstore X0.here hx rfl (hb hby d1_78) rfl (l' := #[.val (.long q1), .second, .val (.long q2), .second, .val (.long (9223372036854775807 : Int64)), .second, .val (.long ((q1.toUInt64 >>> ((32 : Int32) &&& 0x3f).toInt64.toUInt64).toInt64)), .second, .val (.long (q1 &&& (4294967295 : Int64))), .second, .val (.long ((q2.toUInt64 >>> ((32 : Int32) &&& 0x3f).toInt64.toUInt64).toInt64)), .second, .val (.long (q2 &&& (4294967295 : Int64))), .second, .val (.long ((((q1.toUInt64 >>> ((32 : Int32) &&& 0x3f).toInt64.toUInt64).toInt64) * (q2 &&& (4294967295 : Int64))) + ((q1 &&& (4294967295 : Int64)) * ((q2.toUInt64 >>> ((32 : Int32) &&& 0x3f).toInt64.toUInt64).toInt64)))), .second, .val (.long ((q1 &&& (4294967295 : Int64)) * (q2 &&& (4294967295 : Int64)))), .second, .unset, .unset]) rfl ?_
        show Steps p.tables e below (s₁.setTop (mkF m 80 _ [])) _
        refine XS.lload X0.here hx rfl (hb hby d1_80) rfl ?_
        show Steps p.tables e below (s₁.setTop (mkF m 82 _ [(.long ((q1 &&& (4294967295 : Int64)) * (q2 &&& (4294967295 : Int64))))])) _
        refine XS.lconst X0.here hx rfl (hb hby d1_82) ?_
        show Steps p.tables e below (s₁.setTop (mkF m 83 _ [(.long (0 : Int64)), (.long ((q1 &&& (4294967295 : Int64)) * (q2 &&& (4294967295 : Int64))))])) _
        refine XS.lcmp X0.here hx rfl (hb hby d1_83) rfl ?_
        exact kt
      by_cases hc8 : ((q1 &&& (4294967295 : Int64)) * (q2 &&& (4294967295 : Int64))) < (0 : Int64)
      · skip
        obtain ⟨fs, hr, hrun, hended, hW, hsame⟩ := X0.leave (v := some (.long (9223372036854775807 : Int64))) (fun h => by rw [Bd.returns] at h; cases h) (by first | exact BodyLoose.notSynchronized Bd | exact Body.notSynchronized Bd)
        refine ⟨_, _, pre7 _ ?_, hrun, hended, _, _, rfl, ?_, ⟨_, rfl⟩, hW, hsame.mono (by decide) (by decide)⟩
        · show Steps p.tables e below (s₁.setTop (mkF m 84 #[.val (.long q1), .second, .val (.long q2), .second, .val (.long (9223372036854775807 : Int64)), .second, .val (.long ((q1.toUInt64 >>> ((32 : Int32) &&& 0x3f).toInt64.toUInt64).toInt64)), .second, .val (.long (q1 &&& (4294967295 : Int64))), .second, .val (.long ((q2.toUInt64 >>> ((32 : Int32) &&& 0x3f).toInt64.toUInt64).toInt64)), .second, .val (.long (q2 &&& (4294967295 : Int64))), .second, .val (.long ((((q1.toUInt64 >>> ((32 : Int32) &&& 0x3f).toInt64.toUInt64).toInt64) * (q2 &&& (4294967295 : Int64))) + ((q1 &&& (4294967295 : Int64)) * ((q2.toUInt64 >>> ((32 : Int32) &&& 0x3f).toInt64.toUInt64).toInt64)))), .second, .val (.long ((q1 &&& (4294967295 : Int64)) * (q2 &&& (4294967295 : Int64)))), .second, .unset, .unset] [(.int (lcmpW ((q1 &&& (4294967295 : Int64)) * (q2 &&& (4294967295 : Int64))) (0 : Int64)))])) _
          refine XS.ifNo X0.here hx rfl (hb hby d1_84) rfl ((if0 _ _).trans (tlt ((lw_lt _ _).mpr hc8)).2.1) ?_
          show Steps p.tables e below (s₁.setTop (mkF m 87 _ [])) _
          refine XS.lload X0.here hx rfl (hb hby d1_87) rfl ?_
          show Steps p.tables e below (s₁.setTop (mkF m 89 #[.val (.long q1), .second, .val (.long q2), .second, .val (.long (9223372036854775807 : Int64)), .second, .val (.long ((q1.toUInt64 >>> ((32 : Int32) &&& 0x3f).toInt64.toUInt64).toInt64)), .second, .val (.long (q1 &&& (4294967295 : Int64))), .second, .val (.long ((q2.toUInt64 >>> ((32 : Int32) &&& 0x3f).toInt64.toUInt64).toInt64)), .second, .val (.long (q2 &&& (4294967295 : Int64))), .second, .val (.long ((((q1.toUInt64 >>> ((32 : Int32) &&& 0x3f).toInt64.toUInt64).toInt64) * (q2 &&& (4294967295 : Int64))) + ((q1 &&& (4294967295 : Int64)) * ((q2.toUInt64 >>> ((32 : Int32) &&& 0x3f).toInt64.toUInt64).toInt64)))), .second, .val (.long ((q1 &&& (4294967295 : Int64)) * (q2 &&& (4294967295 : Int64)))), .second, .unset, .unset] [(.long (9223372036854775807 : Int64))])) _
          exact X0.lreturnOut hx Bd.returns (hb hby d1_89) hr
        · show Q1 Z q1 q2 h0 n0 _ s₁.heap _
          rw [e0]
          exact ⟨congrArg (fun z => some (Value.long z)) (by rw [f1, if_pos hc4, if_pos hc6, if_pos hc8] : f1 q1 q2 = (9223372036854775807 : Int64)).symm, N0, rfl⟩
      · skip
        have pre9 : ∀ t, Steps p.tables e below (s₁.setTop (mkF m 104 #[.val (.long q1), .second, .val (.long q2), .second, .val (.long (9223372036854775807 : Int64)), .second, .val (.long ((q1.toUInt64 >>> ((32 : Int32) &&& 0x3f).toInt64.toUInt64).toInt64)), .second, .val (.long (q1 &&& (4294967295 : Int64))), .second, .val (.long ((q2.toUInt64 >>> ((32 : Int32) &&& 0x3f).toInt64.toUInt64).toInt64)), .second, .val (.long (q2 &&& (4294967295 : Int64))), .second, .val (.long ((((q1.toUInt64 >>> ((32 : Int32) &&& 0x3f).toInt64.toUInt64).toInt64) * (q2 &&& (4294967295 : Int64))) + ((q1 &&& (4294967295 : Int64)) * ((q2.toUInt64 >>> ((32 : Int32) &&& 0x3f).toInt64.toUInt64).toInt64)))), .second, .val (.long ((q1 &&& (4294967295 : Int64)) * (q2 &&& (4294967295 : Int64)))), .second, .val (.long ((((((q1.toUInt64 >>> ((32 : Int32) &&& 0x3f).toInt64.toUInt64).toInt64) * (q2 &&& (4294967295 : Int64))) + ((q1 &&& (4294967295 : Int64)) * ((q2.toUInt64 >>> ((32 : Int32) &&& 0x3f).toInt64.toUInt64).toInt64))) <<< ((32 : Int32) &&& 0x3f).toInt64) + ((q1 &&& (4294967295 : Int64)) * (q2 &&& (4294967295 : Int64))))), .second] [(.int (lcmpW ((((((q1.toUInt64 >>> ((32 : Int32) &&& 0x3f).toInt64.toUInt64).toInt64) * (q2 &&& (4294967295 : Int64))) + ((q1 &&& (4294967295 : Int64)) * ((q2.toUInt64 >>> ((32 : Int32) &&& 0x3f).toInt64.toUInt64).toInt64))) <<< ((32 : Int32) &&& 0x3f).toInt64) + ((q1 &&& (4294967295 : Int64)) * (q2 &&& (4294967295 : Int64)))) (0 : Int64)))])) t → Steps p.tables e below (s₁.setTop (entryFrame m #[(.long q1), (.long q2)] 20)) t := fun t kt => by
          refine pre7 _ ?_
          show Steps p.tables e below (s₁.setTop (mkF m 84 #[.val (.long q1), .second, .val (.long q2), .second, .val (.long (9223372036854775807 : Int64)), .second, .val (.long ((q1.toUInt64 >>> ((32 : Int32) &&& 0x3f).toInt64.toUInt64).toInt64)), .second, .val (.long (q1 &&& (4294967295 : Int64))), .second, .val (.long ((q2.toUInt64 >>> ((32 : Int32) &&& 0x3f).toInt64.toUInt64).toInt64)), .second, .val (.long (q2 &&& (4294967295 : Int64))), .second, .val (.long ((((q1.toUInt64 >>> ((32 : Int32) &&& 0x3f).toInt64.toUInt64).toInt64) * (q2 &&& (4294967295 : Int64))) + ((q1 &&& (4294967295 : Int64)) * ((q2.toUInt64 >>> ((32 : Int32) &&& 0x3f).toInt64.toUInt64).toInt64)))), .second, .val (.long ((q1 &&& (4294967295 : Int64)) * (q2 &&& (4294967295 : Int64)))), .second, .unset, .unset] [(.int (lcmpW ((q1 &&& (4294967295 : Int64)) * (q2 &&& (4294967295 : Int64))) (0 : Int64)))])) _
          refine XS.ifYes X0.here hx rfl (pc0 := 84) (pc' := 90) rfl (hb hby d1_84) rfl ((if0 _ _).trans (flt (mt (lw_lt _ _).mp hc8)).2.1) (by decide) (by decide) ?_
          show Steps p.tables e below (s₁.setTop (mkF m 90 _ [])) _
          refine XS.lload X0.here hx rfl (hb hby d1_90) rfl ?_
          show Steps p.tables e below (s₁.setTop (mkF m 92 _ [(.long ((((q1.toUInt64 >>> ((32 : Int32) &&& 0x3f).toInt64.toUInt64).toInt64) * (q2 &&& (4294967295 : Int64))) + ((q1 &&& (4294967295 : Int64)) * ((q2.toUInt64 >>> ((32 : Int32) &&& 0x3f).toInt64.toUInt64).toInt64))))])) _
          refine XS.bipush X0.here hx rfl (hb hby d1_92) ?_
          show Steps p.tables e below (s₁.setTop (mkF m 94 _ [(.int (32 : Int32)), (.long ((((q1.toUInt64 >>> ((32 : Int32) &&& 0x3f).toInt64.toUInt64).toInt64) * (q2 &&& (4294967295 : Int64))) + ((q1 &&& (4294967295 : Int64)) * ((q2.toUInt64 >>> ((32 : Int32) &&& 0x3f).toInt64.toUInt64).toInt64))))])) _
          refine XS.lshl X0.here hx rfl (hb hby d1_94) rfl ?_
          show Steps p.tables e below (s₁.setTop (mkF m 95 _ [(.long (((((q1.toUInt64 >>> ((32 : Int32) &&& 0x3f).toInt64.toUInt64).toInt64) * (q2 &&& (4294967295 : Int64))) + ((q1 &&& (4294967295 : Int64)) * ((q2.toUInt64 >>> ((32 : Int32) &&& 0x3f).toInt64.toUInt64).toInt64))) <<< ((32 : Int32) &&& 0x3f).toInt64))])) _
          refine XS.lload X0.here hx rfl (hb hby d1_95) rfl ?_
          show Steps p.tables e below (s₁.setTop (mkF m 97 _ [(.long ((q1 &&& (4294967295 : Int64)) * (q2 &&& (4294967295 : Int64)))), (.long (((((q1.toUInt64 >>> ((32 : Int32) &&& 0x3f).toInt64.toUInt64).toInt64) * (q2 &&& (4294967295 : Int64))) + ((q1 &&& (4294967295 : Int64)) * ((q2.toUInt64 >>> ((32 : Int32) &&& 0x3f).toInt64.toUInt64).toInt64))) <<< ((32 : Int32) &&& 0x3f).toInt64))])) _
          refine XS.ladd X0.here hx rfl (hb hby d1_97) rfl ?_
          show Steps p.tables e below (s₁.setTop (mkF m 98 _ [(.long ((((((q1.toUInt64 >>> ((32 : Int32) &&& 0x3f).toInt64.toUInt64).toInt64) * (q2 &&& (4294967295 : Int64))) + ((q1 &&& (4294967295 : Int64)) * ((q2.toUInt64 >>> ((32 : Int32) &&& 0x3f).toInt64.toUInt64).toInt64))) <<< ((32 : Int32) &&& 0x3f).toInt64) + ((q1 &&& (4294967295 : Int64)) * (q2 &&& (4294967295 : Int64)))))])) _
          refine XS.lstore X0.here hx rfl (hb hby d1_98) rfl (l' := #[.val (.long q1), .second, .val (.long q2), .second, .val (.long (9223372036854775807 : Int64)), .second, .val (.long ((q1.toUInt64 >>> ((32 : Int32) &&& 0x3f).toInt64.toUInt64).toInt64)), .second, .val (.long (q1 &&& (4294967295 : Int64))), .second, .val (.long ((q2.toUInt64 >>> ((32 : Int32) &&& 0x3f).toInt64.toUInt64).toInt64)), .second, .val (.long (q2 &&& (4294967295 : Int64))), .second, .val (.long ((((q1.toUInt64 >>> ((32 : Int32) &&& 0x3f).toInt64.toUInt64).toInt64) * (q2 &&& (4294967295 : Int64))) + ((q1 &&& (4294967295 : Int64)) * ((q2.toUInt64 >>> ((32 : Int32) &&& 0x3f).toInt64.toUInt64).toInt64)))), .second, .val (.long ((q1 &&& (4294967295 : Int64)) * (q2 &&& (4294967295 : Int64)))), .second, .val (.long ((((((q1.toUInt64 >>> ((32 : Int32) &&& 0x3f).toInt64.toUInt64).toInt64) * (q2 &&& (4294967295 : Int64))) + ((q1 &&& (4294967295 : Int64)) * ((q2.toUInt64 >>> ((32 : Int32) &&& 0x3f).toInt64.toUInt64).toInt64))) <<< ((32 : Int32) &&& 0x3f).toInt64) + ((q1 &&& (4294967295 : Int64)) * (q2 &&& (4294967295 : Int64))))), .second]) rfl ?_
          show Steps p.tables e below (s₁.setTop (mkF m 100 _ [])) _
          refine XS.lload X0.here hx rfl (hb hby d1_100) rfl ?_
          show Steps p.tables e below (s₁.setTop (mkF m 102 _ [(.long ((((((q1.toUInt64 >>> ((32 : Int32) &&& 0x3f).toInt64.toUInt64).toInt64) * (q2 &&& (4294967295 : Int64))) + ((q1 &&& (4294967295 : Int64)) * ((q2.toUInt64 >>> ((32 : Int32) &&& 0x3f).toInt64.toUInt64).toInt64))) <<< ((32 : Int32) &&& 0x3f).toInt64) + ((q1 &&& (4294967295 : Int64)) * (q2 &&& (4294967295 : Int64)))))])) _
          refine XS.lconst X0.here hx rfl (hb hby d1_102) ?_
          show Steps p.tables e below (s₁.setTop (mkF m 103 _ [(.long (0 : Int64)), (.long ((((((q1.toUInt64 >>> ((32 : Int32) &&& 0x3f).toInt64.toUInt64).toInt64) * (q2 &&& (4294967295 : Int64))) + ((q1 &&& (4294967295 : Int64)) * ((q2.toUInt64 >>> ((32 : Int32) &&& 0x3f).toInt64.toUInt64).toInt64))) <<< ((32 : Int32) &&& 0x3f).toInt64) + ((q1 &&& (4294967295 : Int64)) * (q2 &&& (4294967295 : Int64)))))])) _
          refine XS.lcmp X0.here hx rfl (hb hby d1_103) rfl ?_
          exact kt
        by_cases hc10 : ((((((q1.toUInt64 >>> ((32 : Int32) &&& 0x3f).toInt64.toUInt64).toInt64) * (q2 &&& (4294967295 : Int64))) + ((q1 &&& (4294967295 : Int64)) * ((q2.toUInt64 >>> ((32 : Int32) &&& 0x3f).toInt64.toUInt64).toInt64))) <<< ((32 : Int32) &&& 0x3f).toInt64) + ((q1 &&& (4294967295 : Int64)) * (q2 &&& (4294967295 : Int64)))) < (0 : Int64)
        · skip
          obtain ⟨fs, hr, hrun, hended, hW, hsame⟩ := X0.leave (v := some (.long (9223372036854775807 : Int64))) (fun h => by rw [Bd.returns] at h; cases h) (by first | exact BodyLoose.notSynchronized Bd | exact Body.notSynchronized Bd)
          refine ⟨_, _, pre9 _ ?_, hrun, hended, _, _, rfl, ?_, ⟨_, rfl⟩, hW, hsame.mono (by decide) (by decide)⟩
          · show Steps p.tables e below (s₁.setTop (mkF m 104 #[.val (.long q1), .second, .val (.long q2), .second, .val (.long (9223372036854775807 : Int64)), .second, .val (.long ((q1.toUInt64 >>> ((32 : Int32) &&& 0x3f).toInt64.toUInt64).toInt64)), .second, .val (.long (q1 &&& (4294967295 : Int64))), .second, .val (.long ((q2.toUInt64 >>> ((32 : Int32) &&& 0x3f).toInt64.toUInt64).toInt64)), .second, .val (.long (q2 &&& (4294967295 : Int64))), .second, .val (.long ((((q1.toUInt64 >>> ((32 : Int32) &&& 0x3f).toInt64.toUInt64).toInt64) * (q2 &&& (4294967295 : Int64))) + ((q1 &&& (4294967295 : Int64)) * ((q2.toUInt64 >>> ((32 : Int32) &&& 0x3f).toInt64.toUInt64).toInt64)))), .second, .val (.long ((q1 &&& (4294967295 : Int64)) * (q2 &&& (4294967295 : Int64)))), .second, .val (.long ((((((q1.toUInt64 >>> ((32 : Int32) &&& 0x3f).toInt64.toUInt64).toInt64) * (q2 &&& (4294967295 : Int64))) + ((q1 &&& (4294967295 : Int64)) * ((q2.toUInt64 >>> ((32 : Int32) &&& 0x3f).toInt64.toUInt64).toInt64))) <<< ((32 : Int32) &&& 0x3f).toInt64) + ((q1 &&& (4294967295 : Int64)) * (q2 &&& (4294967295 : Int64))))), .second] [(.int (lcmpW ((((((q1.toUInt64 >>> ((32 : Int32) &&& 0x3f).toInt64.toUInt64).toInt64) * (q2 &&& (4294967295 : Int64))) + ((q1 &&& (4294967295 : Int64)) * ((q2.toUInt64 >>> ((32 : Int32) &&& 0x3f).toInt64.toUInt64).toInt64))) <<< ((32 : Int32) &&& 0x3f).toInt64) + ((q1 &&& (4294967295 : Int64)) * (q2 &&& (4294967295 : Int64)))) (0 : Int64)))])) _
            refine XS.ifNo X0.here hx rfl (hb hby d1_104) rfl ((if0 _ _).trans (tlt ((lw_lt _ _).mpr hc10)).2.1) ?_
            show Steps p.tables e below (s₁.setTop (mkF m 107 _ [])) _
            refine XS.lload X0.here hx rfl (hb hby d1_107) rfl ?_
            show Steps p.tables e below (s₁.setTop (mkF m 109 #[.val (.long q1), .second, .val (.long q2), .second, .val (.long (9223372036854775807 : Int64)), .second, .val (.long ((q1.toUInt64 >>> ((32 : Int32) &&& 0x3f).toInt64.toUInt64).toInt64)), .second, .val (.long (q1 &&& (4294967295 : Int64))), .second, .val (.long ((q2.toUInt64 >>> ((32 : Int32) &&& 0x3f).toInt64.toUInt64).toInt64)), .second, .val (.long (q2 &&& (4294967295 : Int64))), .second, .val (.long ((((q1.toUInt64 >>> ((32 : Int32) &&& 0x3f).toInt64.toUInt64).toInt64) * (q2 &&& (4294967295 : Int64))) + ((q1 &&& (4294967295 : Int64)) * ((q2.toUInt64 >>> ((32 : Int32) &&& 0x3f).toInt64.toUInt64).toInt64)))), .second, .val (.long ((q1 &&& (4294967295 : Int64)) * (q2 &&& (4294967295 : Int64)))), .second, .val (.long ((((((q1.toUInt64 >>> ((32 : Int32) &&& 0x3f).toInt64.toUInt64).toInt64) * (q2 &&& (4294967295 : Int64))) + ((q1 &&& (4294967295 : Int64)) * ((q2.toUInt64 >>> ((32 : Int32) &&& 0x3f).toInt64.toUInt64).toInt64))) <<< ((32 : Int32) &&& 0x3f).toInt64) + ((q1 &&& (4294967295 : Int64)) * (q2 &&& (4294967295 : Int64))))), .second] [(.long (9223372036854775807 : Int64))])) _
            exact X0.lreturnOut hx Bd.returns (hb hby d1_109) hr
          · show Q1 Z q1 q2 h0 n0 _ s₁.heap _
            rw [e0]
            exact ⟨congrArg (fun z => some (Value.long z)) (by rw [f1, if_pos hc4, if_pos hc6, if_neg hc8, if_pos hc10] : f1 q1 q2 = (9223372036854775807 : Int64)).symm, N0, rfl⟩
        · skip
          obtain ⟨fs, hr, hrun, hended, hW, hsame⟩ := X0.leave (v := some (.long ((((((q1.toUInt64 >>> ((32 : Int32) &&& 0x3f).toInt64.toUInt64).toInt64) * (q2 &&& (4294967295 : Int64))) + ((q1 &&& (4294967295 : Int64)) * ((q2.toUInt64 >>> ((32 : Int32) &&& 0x3f).toInt64.toUInt64).toInt64))) <<< ((32 : Int32) &&& 0x3f).toInt64) + ((q1 &&& (4294967295 : Int64)) * (q2 &&& (4294967295 : Int64)))))) (fun h => by rw [Bd.returns] at h; cases h) (by first | exact BodyLoose.notSynchronized Bd | exact Body.notSynchronized Bd)
          refine ⟨_, _, pre9 _ ?_, hrun, hended, _, _, rfl, ?_, ⟨_, rfl⟩, hW, hsame.mono (by decide) (by decide)⟩
          · show Steps p.tables e below (s₁.setTop (mkF m 104 #[.val (.long q1), .second, .val (.long q2), .second, .val (.long (9223372036854775807 : Int64)), .second, .val (.long ((q1.toUInt64 >>> ((32 : Int32) &&& 0x3f).toInt64.toUInt64).toInt64)), .second, .val (.long (q1 &&& (4294967295 : Int64))), .second, .val (.long ((q2.toUInt64 >>> ((32 : Int32) &&& 0x3f).toInt64.toUInt64).toInt64)), .second, .val (.long (q2 &&& (4294967295 : Int64))), .second, .val (.long ((((q1.toUInt64 >>> ((32 : Int32) &&& 0x3f).toInt64.toUInt64).toInt64) * (q2 &&& (4294967295 : Int64))) + ((q1 &&& (4294967295 : Int64)) * ((q2.toUInt64 >>> ((32 : Int32) &&& 0x3f).toInt64.toUInt64).toInt64)))), .second, .val (.long ((q1 &&& (4294967295 : Int64)) * (q2 &&& (4294967295 : Int64)))), .second, .val (.long ((((((q1.toUInt64 >>> ((32 : Int32) &&& 0x3f).toInt64.toUInt64).toInt64) * (q2 &&& (4294967295 : Int64))) + ((q1 &&& (4294967295 : Int64)) * ((q2.toUInt64 >>> ((32 : Int32) &&& 0x3f).toInt64.toUInt64).toInt64))) <<< ((32 : Int32) &&& 0x3f).toInt64) + ((q1 &&& (4294967295 : Int64)) * (q2 &&& (4294967295 : Int64))))), .second] [(.int (lcmpW ((((((q1.toUInt64 >>> ((32 : Int32) &&& 0x3f).toInt64.toUInt64).toInt64) * (q2 &&& (4294967295 : Int64))) + ((q1 &&& (4294967295 : Int64)) * ((q2.toUInt64 >>> ((32 : Int32) &&& 0x3f).toInt64.toUInt64).toInt64))) <<< ((32 : Int32) &&& 0x3f).toInt64) + ((q1 &&& (4294967295 : Int64)) * (q2 &&& (4294967295 : Int64)))) (0 : Int64)))])) _
            refine XS.ifYes X0.here hx rfl (pc0 := 104) (pc' := 110) rfl (hb hby d1_104) rfl ((if0 _ _).trans (flt (mt (lw_lt _ _).mp hc10)).2.1) (by decide) (by decide) ?_
            show Steps p.tables e below (s₁.setTop (mkF m 110 _ [])) _
            refine XS.lload X0.here hx rfl (hb hby d1_110) rfl ?_
            show Steps p.tables e below (s₁.setTop (mkF m 112 #[.val (.long q1), .second, .val (.long q2), .second, .val (.long (9223372036854775807 : Int64)), .second, .val (.long ((q1.toUInt64 >>> ((32 : Int32) &&& 0x3f).toInt64.toUInt64).toInt64)), .second, .val (.long (q1 &&& (4294967295 : Int64))), .second, .val (.long ((q2.toUInt64 >>> ((32 : Int32) &&& 0x3f).toInt64.toUInt64).toInt64)), .second, .val (.long (q2 &&& (4294967295 : Int64))), .second, .val (.long ((((q1.toUInt64 >>> ((32 : Int32) &&& 0x3f).toInt64.toUInt64).toInt64) * (q2 &&& (4294967295 : Int64))) + ((q1 &&& (4294967295 : Int64)) * ((q2.toUInt64 >>> ((32 : Int32) &&& 0x3f).toInt64.toUInt64).toInt64)))), .second, .val (.long ((q1 &&& (4294967295 : Int64)) * (q2 &&& (4294967295 : Int64)))), .second, .val (.long ((((((q1.toUInt64 >>> ((32 : Int32) &&& 0x3f).toInt64.toUInt64).toInt64) * (q2 &&& (4294967295 : Int64))) + ((q1 &&& (4294967295 : Int64)) * ((q2.toUInt64 >>> ((32 : Int32) &&& 0x3f).toInt64.toUInt64).toInt64))) <<< ((32 : Int32) &&& 0x3f).toInt64) + ((q1 &&& (4294967295 : Int64)) * (q2 &&& (4294967295 : Int64))))), .second] [(.long ((((((q1.toUInt64 >>> ((32 : Int32) &&& 0x3f).toInt64.toUInt64).toInt64) * (q2 &&& (4294967295 : Int64))) + ((q1 &&& (4294967295 : Int64)) * ((q2.toUInt64 >>> ((32 : Int32) &&& 0x3f).toInt64.toUInt64).toInt64))) <<< ((32 : Int32) &&& 0x3f).toInt64) + ((q1 &&& (4294967295 : Int64)) * (q2 &&& (4294967295 : Int64)))))])) _
            exact X0.lreturnOut hx Bd.returns (hb hby d1_112) hr
          · show Q1 Z q1 q2 h0 n0 _ s₁.heap _
            rw [e0]
            exact ⟨congrArg (fun z => some (Value.long z)) (by rw [f1, if_pos hc4, if_pos hc6, if_neg hc8, if_neg hc10] : f1 q1 q2 = ((((((q1.toUInt64 >>> ((32 : Int32) &&& 0x3f).toInt64.toUInt64).toInt64) * (q2 &&& (4294967295 : Int64))) + ((q1 &&& (4294967295 : Int64)) * ((q2.toUInt64 >>> ((32 : Int32) &&& 0x3f).toInt64.toUInt64).toInt64))) <<< ((32 : Int32) &&& 0x3f).toInt64) + ((q1 &&& (4294967295 : Int64)) * (q2 &&& (4294967295 : Int64))))).symm, N0, rfl⟩
    · skip
      obtain ⟨fs, hr, hrun, hended, hW, hsame⟩ := X0.leave (v := some (.long (9223372036854775807 : Int64))) (fun h => by rw [Bd.returns] at h; cases h) (by first | exact BodyLoose.notSynchronized Bd | exact Body.notSynchronized Bd)
      refine ⟨_, _, pre5 _ ?_, hrun, hended, _, _, rfl, ?_, ⟨_, rfl⟩, hW, hsame.mono (by decide) (by decide)⟩
      · show Steps p.tables e below (s₁.setTop (mkF m 67 #[.val (.long q1), .second, .val (.long q2), .second, .val (.long (9223372036854775807 : Int64)), .second, .val (.long ((q1.toUInt64 >>> ((32 : Int32) &&& 0x3f).toInt64.toUInt64).toInt64)), .second, .val (.long (q1 &&& (4294967295 : Int64))), .second, .val (.long ((q2.toUInt64 >>> ((32 : Int32) &&& 0x3f).toInt64.toUInt64).toInt64)), .second, .val (.long (q2 &&& (4294967295 : Int64))), .second, .val (.long ((((q1.toUInt64 >>> ((32 : Int32) &&& 0x3f).toInt64.toUInt64).toInt64) * (q2 &&& (4294967295 : Int64))) + ((q1 &&& (4294967295 : Int64)) * ((q2.toUInt64 >>> ((32 : Int32) &&& 0x3f).toInt64.toUInt64).toInt64)))), .second, .unset, .unset, .unset, .unset] [(.int (lcmpW ((((q1.toUInt64 >>> ((32 : Int32) &&& 0x3f).toInt64.toUInt64).toInt64) * (q2 &&& (4294967295 : Int64))) + ((q1 &&& (4294967295 : Int64)) * ((q2.toUInt64 >>> ((32 : Int32) &&& 0x3f).toInt64.toUInt64).toInt64))) (2147483648 : Int64)))])) _
        refine XS.ifNo X0.here hx rfl (hb hby d1_67) rfl ((if0 _ _).trans (flt (mt (lw_lt _ _).mp hc6)).1) ?_
        show Steps p.tables e below (s₁.setTop (mkF m 70 _ [])) _
        refine XS.lload X0.here hx rfl (hb hby d1_70) rfl ?_
        show Steps p.tables e below (s₁.setTop (mkF m 72 #[.val (.long q1), .second, .val (.long q2), .second, .val (.long (9223372036854775807 : Int64)), .second, .val (.long ((q1.toUInt64 >>> ((32 : Int32) &&& 0x3f).toInt64.toUInt64).toInt64)), .second, .val (.long (q1 &&& (4294967295 : Int64))), .second, .val (.long ((q2.toUInt64 >>> ((32 : Int32) &&& 0x3f).toInt64.toUInt64).toInt64)), .second, .val (.long (q2 &&& (4294967295 : Int64))), .second, .val (.long ((((q1.toUInt64 >>> ((32 : Int32) &&& 0x3f).toInt64.toUInt64).toInt64) * (q2 &&& (4294967295 : Int64))) + ((q1 &&& (4294967295 : Int64)) * ((q2.toUInt64 >>> ((32 : Int32) &&& 0x3f).toInt64.toUInt64).toInt64)))), .second, .unset, .unset, .unset, .unset] [(.long (9223372036854775807 : Int64))])) _
        exact X0.lreturnOut hx Bd.returns (hb hby d1_72) hr
      · show Q1 Z q1 q2 h0 n0 _ s₁.heap _
        rw [e0]
        exact ⟨congrArg (fun z => some (Value.long z)) (by rw [f1, if_pos hc4, if_neg hc6] : f1 q1 q2 = (9223372036854775807 : Int64)).symm, N0, rfl⟩
  · skip
    have pre11 : ∀ t, Steps p.tables e below (s₁.setTop (mkF m 42 #[.val (.long q1), .second, .val (.long q2), .second, .val (.long (9223372036854775807 : Int64)), .second, .val (.long ((q1.toUInt64 >>> ((32 : Int32) &&& 0x3f).toInt64.toUInt64).toInt64)), .second, .val (.long (q1 &&& (4294967295 : Int64))), .second, .val (.long ((q2.toUInt64 >>> ((32 : Int32) &&& 0x3f).toInt64.toUInt64).toInt64)), .second, .val (.long (q2 &&& (4294967295 : Int64))), .second, .unset, .unset, .unset, .unset, .unset, .unset] [(.int (lcmpW ((q2.toUInt64 >>> ((32 : Int32) &&& 0x3f).toInt64.toUInt64).toInt64) (0 : Int64)))])) t → Steps p.tables e below (s₁.setTop (entryFrame m #[(.long q1), (.long q2)] 20)) t := fun t kt => by
      refine pre3 _ ?_
      show Steps p.tables e below (s₁.setTop (mkF m 35 #[.val (.long q1), .second, .val (.long q2), .second, .val (.long (9223372036854775807 : Int64)), .second, .val (.long ((q1.toUInt64 >>> ((32 : Int32) &&& 0x3f).toInt64.toUInt64).toInt64)), .second, .val (.long (q1 &&& (4294967295 : Int64))), .second, .val (.long ((q2.toUInt64 >>> ((32 : Int32) &&& 0x3f).toInt64.toUInt64).toInt64)), .second, .val (.long (q2 &&& (4294967295 : Int64))), .second, .unset, .unset, .unset, .unset, .unset, .unset] [(.int (lcmpW ((q1.toUInt64 >>> ((32 : Int32) &&& 0x3f).toInt64.toUInt64).toInt64) (0 : Int64)))])) _
      refine XS.ifNo X0.here hx rfl (hb hby d1_35) rfl ((if0 _ _).trans (feq (mt (lw_eq _ _).mp hc4)).1) ?_
      show Steps p.tables e below (s₁.setTop (mkF m 38 _ [])) _
      refine XS.lload X0.here hx rfl (hb hby d1_38) rfl ?_
      show Steps p.tables e below (s₁.setTop (mkF m 40 _ [(.long ((q2.toUInt64 >>> ((32 : Int32) &&& 0x3f).toInt64.toUInt64).toInt64))])) _
      refine XS.lconst X0.here hx rfl (hb hby d1_40) ?_
      show Steps p.tables e below (s₁.setTop (mkF m 41 _ [(.long (0 : Int64)), (.long ((q2.toUInt64 >>> ((32 : Int32) &&& 0x3f).toInt64.toUInt64).toInt64))])) _
      refine XS.lcmp X0.here hx rfl (hb hby d1_41) rfl ?_
      exact kt
    by_cases hc12 : ((q2.toUInt64 >>> ((32 : Int32) &&& 0x3f).toInt64.toUInt64).toInt64) = (0 : Int64)
    · skip
      have pre13 : ∀ t, Steps p.tables e below (s₁.setTop (mkF m 67 #[.val (.long q1), .second, .val (.long q2), .second, .val (.long (9223372036854775807 : Int64)), .second, .val (.long ((q1.toUInt64 >>> ((32 : Int32) &&& 0x3f).toInt64.toUInt64).toInt64)), .second, .val (.long (q1 &&& (4294967295 : Int64))), .second, .val (.long ((q2.toUInt64 >>> ((32 : Int32) &&& 0x3f).toInt64.toUInt64).toInt64)), .second, .val (.long (q2 &&& (4294967295 : Int64))), .second, .val (.long ((((q1.toUInt64 >>> ((32 : Int32) &&& 0x3f).toInt64.toUInt64).toInt64) * (q2 &&& (4294967295 : Int64))) + ((q1 &&& (4294967295 : Int64)) * ((q2.toUInt64 >>> ((32 : Int32) &&& 0x3f).toInt64.toUInt64).toInt64)))), .second, .unset, .unset, .unset, .unset] [(.int (lcmpW ((((q1.toUInt64 >>> ((32 : Int32) &&& 0x3f).toInt64.toUInt64).toInt64) * (q2 &&& (4294967295 : Int64))) + ((q1 &&& (4294967295 : Int64)) * ((q2.toUInt64 >>> ((32 : Int32) &&& 0x3f).toInt64.toUInt64).toInt64))) (2147483648 : Int64)))])) t → Steps p.tables e below (s₁.setTop (entryFrame m #[(.long q1), (.long q2)] 20)) t := fun t kt => by
        refine pre11 _ ?_
        show Steps p.tables e below (s₁.setTop (mkF m 42 #[.val (.long q1), .second, .val (.long q2), .second, .val (.long (9223372036854775807 : Int64)), .second, .val (.long ((q1.toUInt64 >>> ((32 : Int32) &&& 0x3f).toInt64.toUInt64).toInt64)), .second, .val (.long (q1 &&& (4294967295 : Int64))), .second, .val (.long ((q2.toUInt64 >>> ((32 : Int32) &&& 0x3f).toInt64.toUInt64).toInt64)), .second, .val (.long (q2 &&& (4294967295 : Int64))), .second, .unset, .unset, .unset, .unset, .unset, .unset] [(.int (lcmpW ((q2.toUInt64 >>> ((32 : Int32) &&& 0x3f).toInt64.toUInt64).toInt64) (0 : Int64)))])) _
        refine XS.ifYes X0.here hx rfl (pc0 := 42) (pc' := 48) rfl (hb hby d1_42) rfl ((if0 _ _).trans (teq ((lw_eq _ _).mpr hc12)).1) (by decide) (by decide) ?_
        show Steps p.tables e below (s₁.setTop (mkF m 48 _ [])) _
        refine XS.lload X0.here hx rfl (hb hby d1_48) rfl ?_
        show Steps p.tables e below (s₁.setTop (mkF m 50 _ [(.long ((q1.toUInt64 >>> ((32 : Int32) &&& 0x3f).toInt64.toUInt64).toInt64))])) _
        refine XS.lload X0.here hx rfl (hb hby d1_50) rfl ?_
        show Steps p.tables e below (s₁.setTop (mkF m 52 _ [(.long (q2 &&& (4294967295 : Int64))), (.long ((q1.toUInt64 >>> ((32 : Int32) &&& 0x3f).toInt64.toUInt64).toInt64))])) _
        refine XS.lmul X0.here hx rfl (hb hby d1_52) rfl ?_
        show Steps p.tables e below (s₁.setTop (mkF m 53 _ [(.long (((q1.toUInt64 >>> ((32 : Int32) &&& 0x3f).toInt64.toUInt64).toInt64) * (q2 &&& (4294967295 : Int64))))])) _
        refine XS.lload X0.here hx rfl (hb hby d1_53) rfl ?_
        show Steps p.tables e below (s₁.setTop (mkF m 55 _ [(.long (q1 &&& (4294967295 : Int64))), (.long (((q1.toUInt64 >>> ((32 : Int32) &&& 0x3f).toInt64.toUInt64).toInt64) * (q2 &&& (4294967295 : Int64))))])) _
        refine XS.lload X0.here hx rfl (hb hby d1_55) rfl ?_
        show Steps p.tables e below (s₁.setTop (mkF m 57 _ [(.long ((q2.toUInt64 >>> ((32 : Int32) &&& 0x3f).toInt64.toUInt64).toInt64)), (.long (q1 &&& (4294967295 : Int64))), (.long (((q1.toUInt64 >>> ((32 : Int32) &&& 0x3f).toInt64.toUInt64).toInt64) * (q2 &&& (4294967295 : Int64))))])) _
        refine XS.lmul X0.here hx rfl (hb hby d1_57) rfl ?_
        show Steps p.tables e below (s₁.setTop (mkF m 58 _ [(.long ((q1 &&& (4294967295 : Int64)) * ((q2.toUInt64 >>> ((32 : Int32) &&& 0x3f).toInt64.toUInt64).toInt64))), (.long (((q1.toUInt64 >>> ((32 : Int32) &&& 0x3f).toInt64.toUInt64).toInt64) * (q2 &&& (4294967295 : Int64))))])) _
        refine XS.ladd X0.here hx rfl (hb hby d1_58) rfl ?_
        show Steps p.tables e below (s₁.setTop (mkF m 59 _ [(.long ((((q1.toUInt64 >>> ((32 : Int32) &&& 0x3f).toInt64.toUInt64).toInt64) * (q2 &&& (4294967295 : Int64))) + ((q1 &&& (4294967295 : Int64)) * ((q2.toUInt64 >>> ((32 : Int32) &&& 0x3f).toInt64.toUInt64).toInt64))))])) _
        refine XS.lstore X0.here hx rfl (hb hby d1_59) rfl (l' := #[.val (.long q1), .second, .val (.long q2), .second, .val (.long (9223372036854775807 : Int64)), .second, .val (.long ((q1.toUInt64 >>> ((32 : Int32) &&& 0x3f).toInt64.toUInt64).toInt64)), .second, .val (.long (q1 &&& (4294967295 : Int64))), .second, .val (.long ((q2.toUInt64 >>> ((32 : Int32) &&& 0x3f).toInt64.toUInt64).toInt64)), .second, .val (.long (q2 &&& (4294967295 : Int64))), .second, .val (.long ((((q1.toUInt64 >>> ((32 : Int32) &&& 0x3f).toInt64.toUInt64).toInt64) * (q2 &&& (4294967295 : Int64))) + ((q1 &&& (4294967295 : Int64)) * ((q2.toUInt64 >>> ((32 : Int32) &&& 0x3f).toInt64.toUInt64).toInt64)))), .second, .unset, .unset, .unset, .unset]) rfl ?_
        show Steps p.tables e below (s₁.setTop (mkF m 61 _ [])) _
        refine XS.lload X0.here hx rfl (hb hby d1_61) rfl ?_
        show Steps p.tables e below (s₁.setTop (mkF m 63 _ [(.long ((((q1.toUInt64 >>> ((32 : Int32) &&& 0x3f).toInt64.toUInt64).toInt64) * (q2 &&& (4294967295 : Int64))) + ((q1 &&& (4294967295 : Int64)) * ((q2.toUInt64 >>> ((32 : Int32) &&& 0x3f).toInt64.toUInt64).toInt64))))])) _
        refine X0.ldc2Long hx hown (mvT hZ (hw _ (List.mem_of_getElem? (i := 6) rfl))) (g := (mkF m 63 #[.val (.long q1), .second, .val (.long q2), .second, .val (.long (9223372036854775807 : Int64)), .second, .val (.long ((q1.toUInt64 >>> ((32 : Int32) &&& 0x3f).toInt64.toUInt64).toInt64)), .second, .val (.long (q1 &&& (4294967295 : Int64))), .second, .val (.long ((q2.toUInt64 >>> ((32 : Int32) &&& 0x3f).toInt64.toUInt64).toInt64)), .second, .val (.long (q2 &&& (4294967295 : Int64))), .second, .val (.long ((((q1.toUInt64 >>> ((32 : Int32) &&& 0x3f).toInt64.toUInt64).toInt64) * (q2 &&& (4294967295 : Int64))) + ((q1 &&& (4294967295 : Int64)) * ((q2.toUInt64 >>> ((32 : Int32) &&& 0x3f).toInt64.toUInt64).toInt64)))), .second, .unset, .unset, .unset, .unset] [(.long ((((q1.toUInt64 >>> ((32 : Int32) &&& 0x3f).toInt64.toUInt64).toInt64) * (q2 &&& (4294967295 : Int64))) + ((q1 &&& (4294967295 : Int64)) * ((q2.toUInt64 >>> ((32 : Int32) &&& 0x3f).toInt64.toUInt64).toInt64))))])) rfl (hb hby d1_63) _ ?_
        show Steps p.tables e below (s₁.setTop (mkF m 66 _ [(.long (2147483648 : Int64)), (.long ((((q1.toUInt64 >>> ((32 : Int32) &&& 0x3f).toInt64.toUInt64).toInt64) * (q2 &&& (4294967295 : Int64))) + ((q1 &&& (4294967295 : Int64)) * ((q2.toUInt64 >>> ((32 : Int32) &&& 0x3f).toInt64.toUInt64).toInt64))))])) _
        refine XS.lcmp X0.here hx rfl (hb hby d1_66) rfl ?_
        exact kt
      by_cases hc14 : ((((q1.toUInt64 >>> ((32 : Int32) &&& 0x3f).toInt64.toUInt64).toInt64) * (q2 &&& (4294967295 : Int64))) + ((q1 &&& (4294967295 : Int64)) * ((q2.toUInt64 >>> ((32 : Int32) &&& 0x3f).toInt64.toUInt64).toInt64))) < (2147483648 : Int64)
      · skip
        have pre15 : ∀ t, Steps p.tables e below (s₁.setTop (mkF m 84 #[.val (.long q1), .second, .val (.long q2), .second, .val (.long (9223372036854775807 : Int64)), .second, .val (.long ((q1.toUInt64 >>> ((32 : Int32) &&& 0x3f).toInt64.toUInt64).toInt64)), .second, .val (.long (q1 &&& (4294967295 : Int64))), .second, .val (.long ((q2.toUInt64 >>> ((32 : Int32) &&& 0x3f).toInt64.toUInt64).toInt64)), .second, .val (.long (q2 &&& (4294967295 : Int64))), .second, .val (.long ((((q1.toUInt64 >>> ((32 : Int32) &&& 0x3f).toInt64.toUInt64).toInt64) * (q2 &&& (4294967295 : Int64))) + ((q1 &&& (4294967295 : Int64)) * ((q2.toUInt64 >>> ((32 : Int32) &&& 0x3f).toInt64.toUInt64).toInt64)))), .second, .val (.long ((q1 &&& (4294967295 : Int64)) * (q2 &&& (4294967295 : Int64)))), .second, .unset, .unset] [(.int (lcmpW ((q1 &&& (4294967295 : Int64)) * (q2 &&& (4294967295 : Int64))) (0 : Int64)))])) t → Steps p.tables e below (s₁.setTop (entryFrame m #[(.long q1), (.long q2)] 20)) t := fun t kt => by
          refine pre13 _ ?_
          show Steps p.tables e below (s₁.setTop (mkF m 67 #[.val (.long q1), .second, .val (.long q2), .second, .val (.long (9223372036854775807 : Int64)), .second, .val (.long ((q1.toUInt64 >>> ((32 : Int32) &&& 0x3f).toInt64.toUInt64).toInt64)), .second, .val (.long (q1 &&& (4294967295 : Int64))), .second, .val (.long ((q2.toUInt64 >>> ((32 : Int32) &&& 0x3f).toInt64.toUInt64).toInt64)), .second, .val (.long (q2 &&& (4294967295 : Int64))), .second, .val (.long ((((q1.toUInt64 >>> ((32 : Int32) &&& 0x3f).toInt64.toUInt64).toInt64) * (q2 &&& (4294967295 : Int64))) + ((q1 &&& (4294967295 : Int64)) * ((q2.toUInt64 >>> ((32 : Int32) &&& 0x3f).toInt64.toUInt64).toInt64)))), .second, .unset, .unset, .unset, .unset] [(.int (lcmpW ((((q1.toUInt64 >>> ((32 : Int32) &&& 0x3f).toInt64.toUInt64).toInt64) * (q2 &&& (4294967295 : Int64))) + ((q1 &&& (4294967295 : Int64)) * ((q2.toUInt64 >>> ((32 : Int32) &&& 0x3f).toInt64.toUInt64).toInt64))) (2147483648 : Int64)))])) _
          refine XS.ifYes X0.here hx rfl (pc0 := 67) (pc' := 73) rfl (hb hby d1_67) rfl ((if0 _ _).trans (tlt ((lw_lt _ _).mpr hc14)).1) (by decide) (by decide) ?_
          show Steps p.tables e below (s₁.setTop (mkF m 73 _ [])) _
          refine XS.lload X0.here hx rfl (hb hby d1_73) rfl ?_
          show Steps p.tables e below (s₁.setTop (mkF m 75 _ [(.long (q1 &&& (4294967295 : Int64)))])) _
          refine XS.lload X0.here hx rfl (hb hby d1_75) rfl ?_
          show Steps p.tables e below (s₁.setTop (mkF m 77 _ [(.long (q2 &&& (4294967295 : Int64))), (.long (q1 &&& (4294967295 : Int64)))])) _
          refine XS.lmul X0.here hx rfl (hb hby d1_77) rfl ?_
          show Steps p.tables e below (s₁.setTop (mkF m 78 _ [(.long ((q1 &&& (4294967295 : Int64)) * (q2 &&& (4294967295 : Int64))))])) _
          refine XS.lstore X0.here hx rfl (hb hby d1_78) rfl (l' := #[.val (.long q1), .second, .val (.long q2), .second, .val (.long (9223372036854775807 : Int64)), .second, .val (.long ((q1.toUInt64 >>> ((32 : Int32) &&& 0x3f).toInt64.toUInt64).toInt64)), .second, .val (.long (q1 &&& (4294967295 : Int64))), .second, .val (.long ((q2.toUInt64 >>> ((32 : Int32) &&& 0x3f).toInt64.toUInt64).toInt64)), .second, .val (.long (q2 &&& (4294967295 : Int64))), .second, .val (.long ((((q1.toUInt64 >>> ((32 : Int32) &&& 0x3f).toInt64.toUInt64).toInt64) * (q2 &&& (4294967295 : Int64))) + ((q1 &&& (4294967295 : Int64)) * ((q2.toUInt64 >>> ((32 : Int32) &&& 0x3f).toInt64.toUInt64).toInt64)))), .second, .val (.long ((q1 &&& (4294967295 : Int64)) * (q2 &&& (4294967295 : Int64)))), .second, .unset, .unset]) rfl ?_
          show Steps p.tables e below (s₁.setTop (mkF m 80 _ [])) _
          refine XS.lload X0.here hx rfl (hb hby d1_80) rfl ?_
          show Steps p.tables e below (s₁.setTop (mkF m 82 _ [(.long ((q1 &&& (4294967295 : Int64)) * (q2 &&& (4294967295 : Int64))))])) _
          refine XS.lconst X0.here hx rfl (hb hby d1_82) ?_
          show Steps p.tables e below (s₁.setTop (mkF m 83 _ [(.long (0 : Int64)), (.long ((q1 &&& (4294967295 : Int64)) * (q2 &&& (4294967295 : Int64))))])) _
          refine XS.lcmp X0.here hx rfl (hb hby d1_83) rfl ?_
          exact kt
        by_cases hc16 : ((q1 &&& (4294967295 : Int64)) * (q2 &&& (4294967295 : Int64))) < (0 : Int64)
        · skip
          obtain ⟨fs, hr, hrun, hended, hW, hsame⟩ := X0.leave (v := some (.long (9223372036854775807 : Int64))) (fun h => by rw [Bd.returns] at h; cases h) (by first | exact BodyLoose.notSynchronized Bd | exact Body.notSynchronized Bd)
          refine ⟨_, _, pre15 _ ?_, hrun, hended, _, _, rfl, ?_, ⟨_, rfl⟩, hW, hsame.mono (by decide) (by decide)⟩
          · show Steps p.tables e below (s₁.setTop (mkF m 84 #[.val (.long q1), .second, .val (.long q2), .second, .val (.long (9223372036854775807 : Int64)), .second, .val (.long ((q1.toUInt64 >>> ((32 : Int32) &&& 0x3f).toInt64.toUInt64).toInt64)), .second, .val (.long (q1 &&& (4294967295 : Int64))), .second, .val (.long ((q2.toUInt64 >>> ((32 : Int32) &&& 0x3f).toInt64.toUInt64).toInt64)), .second, .val (.long (q2 &&& (4294967295 : Int64))), .second, .val (.long ((((q1.toUInt64 >>> ((32 : Int32) &&& 0x3f).toInt64.toUInt64).toInt64) * (q2 &&& (4294967295 : Int64))) + ((q1 &&& (4294967295 : Int64)) * ((q2.toUInt64 >>> ((32 : Int32) &&& 0x3f).toInt64.toUInt64).toInt64)))), .second, .val (.long ((q1 &&& (4294967295 : Int64)) * (q2 &&& (4294967295 : Int64)))), .second, .unset, .unset] [(.int (lcmpW ((q1 &&& (4294967295 : Int64)) * (q2 &&& (4294967295 : Int64))) (0 : Int64)))])) _
            refine XS.ifNo X0.here hx rfl (hb hby d1_84) rfl ((if0 _ _).trans (tlt ((lw_lt _ _).mpr hc16)).2.1) ?_
            show Steps p.tables e below (s₁.setTop (mkF m 87 _ [])) _
            refine XS.lload X0.here hx rfl (hb hby d1_87) rfl ?_
            show Steps p.tables e below (s₁.setTop (mkF m 89 #[.val (.long q1), .second, .val (.long q2), .second, .val (.long (9223372036854775807 : Int64)), .second, .val (.long ((q1.toUInt64 >>> ((32 : Int32) &&& 0x3f).toInt64.toUInt64).toInt64)), .second, .val (.long (q1 &&& (4294967295 : Int64))), .second, .val (.long ((q2.toUInt64 >>> ((32 : Int32) &&& 0x3f).toInt64.toUInt64).toInt64)), .second, .val (.long (q2 &&& (4294967295 : Int64))), .second, .val (.long ((((q1.toUInt64 >>> ((32 : Int32) &&& 0x3f).toInt64.toUInt64).toInt64) * (q2 &&& (4294967295 : Int64))) + ((q1 &&& (4294967295 : Int64)) * ((q2.toUInt64 >>> ((32 : Int32) &&& 0x3f).toInt64.toUInt64).toInt64)))), .second, .val (.long ((q1 &&& (4294967295 : Int64)) * (q2 &&& (4294967295 : Int64)))), .second, .unset, .unset] [(.long (9223372036854775807 : Int64))])) _
            exact X0.lreturnOut hx Bd.returns (hb hby d1_89) hr
          · show Q1 Z q1 q2 h0 n0 _ s₁.heap _
            rw [e0]
            exact ⟨congrArg (fun z => some (Value.long z)) (by rw [f1, if_neg hc4, if_pos hc12, if_pos hc14, if_pos hc16] : f1 q1 q2 = (9223372036854775807 : Int64)).symm, N0, rfl⟩
        · skip
          have pre17 : ∀ t, Steps p.tables e below (s₁.setTop (mkF m 104 #[.val (.long q1), .second, .val (.long q2), .second, .val (.long (9223372036854775807 : Int64)), .second, .val (.long ((q1.toUInt64 >>> ((32 : Int32) &&& 0x3f).toInt64.toUInt64).toInt64)), .second, .val (.long (q1 &&& (4294967295 : Int64))), .second, .val (.long ((q2.toUInt64 >>> ((32 : Int32) &&& 0x3f).toInt64.toUInt64).toInt64)), .second, .val (.long (q2 &&& (4294967295 : Int64))), .second, .val (.long ((((q1.toUInt64 >>> ((32 : Int32) &&& 0x3f).toInt64.toUInt64).toInt64) * (q2 &&& (4294967295 : Int64))) + ((q1 &&& (4294967295 : Int64)) * ((q2.toUInt64 >>> ((32 : Int32) &&& 0x3f).toInt64.toUInt64).toInt64)))), .second, .val (.long ((q1 &&& (4294967295 : Int64)) * (q2 &&& (4294967295 : Int64)))), .second, .val (.long ((((((q1.toUInt64 >>> ((32 : Int32) &&& 0x3f).toInt64.toUInt64).toInt64) * (q2 &&& (4294967295 : Int64))) + ((q1 &&& (4294967295 : Int64)) * ((q2.toUInt64 >>> ((32 : Int32) &&& 0x3f).toInt64.toUInt64).toInt64))) <<< ((32 : Int32) &&& 0x3f).toInt64) + ((q1 &&& (4294967295 : Int64)) * (q2 &&& (4294967295 : Int64))))), .second] [(.int (lcmpW ((((((q1.toUInt64 >>> ((32 : Int32) &&& 0x3f).toInt64.toUInt64).toInt64) * (q2 &&& (4294967295 : Int64))) + ((q1 &&& (4294967295 : Int64)) * ((q2.toUInt64 >>> ((32 : Int32) &&& 0x3f).toInt64.toUInt64).toInt64))) <<< ((32 : Int32) &&& 0x3f).toInt64) + ((q1 &&& (4294967295 : Int64)) * (q2 &&& (4294967295 : Int64)))) (0 : Int64)))])) t → Steps p.tables e below (s₁.setTop (entryFrame m #[(.long q1), (.long q2)] 20)) t := fun t kt => by
            refine pre15 _ ?_
            show Steps p.tables e below (s₁.setTop (mkF m 84 #[.val (.long q1), .second, .val (.long q2), .second, .val (.long (9223372036854775807 : Int64)), .second, .val (.long ((q1.toUInt64 >>> ((32 : Int32) &&& 0x3f).toInt64.toUInt64).toInt64)), .second, .val (.long (q1 &&& (4294967295 : Int64))), .second, .val (.long ((q2.toUInt64 >>> ((32 : Int32) &&& 0x3f).toInt64.toUInt64).toInt64)), .second, .val (.long (q2 &&& (4294967295 : Int64))), .second, .val (.long ((((q1.toUInt64 >>> ((32 : Int32) &&& 0x3f).toInt64.toUInt64).toInt64) * (q2 &&& (4294967295 : Int64))) + ((q1 &&& (4294967295 : Int64)) * ((q2.toUInt64 >>> ((32 : Int32) &&& 0x3f).toInt64.toUInt64).toInt64)))), .second, .val (.long ((q1 &&& (4294967295 : Int64)) * (q2 &&& (4294967295 : Int64)))), .second, .unset, .unset] [(.int (lcmpW ((q1 &&& (4294967295 : Int64)) * (q2 &&& (4294967295 : Int64))) (0 : Int64)))])) _
            refine XS.ifYes X0.here hx rfl (pc0 := 84) (pc' := 90) rfl (hb hby d1_84) rfl ((if0 _ _).trans (flt (mt (lw_lt _ _).mp hc16)).2.1) (by decide) (by decide) ?_
            show Steps p.tables e below (s₁.setTop (mkF m 90 _ [])) _
            refine XS.lload X0.here hx rfl (hb hby d1_90) rfl ?_
            show Steps p.tables e below (s₁.setTop (mkF m 92 _ [(.long ((((q1.toUInt64 >>> ((32 : Int32) &&& 0x3f).toInt64.toUInt64).toInt64) * (q2 &&& (4294967295 : Int64))) + ((q1 &&& (4294967295 : Int64)) * ((q2.toUInt64 >>> ((32 : Int32) &&& 0x3f).toInt64.toUInt64).toInt64))))])) _
            refine XS.bipush X0.here hx rfl (hb hby d1_92) ?_
            show Steps p.tables e below (s₁.setTop (mkF m 94 _ [(.int (32 : Int32)), (.long ((((q1.toUInt64 >>> ((32 : Int32) &&& 0x3f).toInt64.toUInt64).toInt64) * (q2 &&& (4294967295 : Int64))) + ((q1 &&& (4294967295 : Int64)) * ((q2.toUInt64 >>> ((32 : Int32) &&& 0x3f).toInt64.toUInt64).toInt64))))])) _
            refine XS.lshl X0.here hx rfl (hb hby d1_94) rfl ?_
            show Steps p.tables e below (s₁.setTop (mkF m 95 _ [(.long (((((q1.toUInt64 >>> ((32 : Int32) &&& 0x3f).toInt64.toUInt64).toInt64) * (q2 &&& (4294967295 : Int64))) + ((q1 &&& (4294967295 : Int64)) * ((q2.toUInt64 >>> ((32 : Int32) &&& 0x3f).toInt64.toUInt64).toInt64))) <<< ((32 : Int32) &&& 0x3f).toInt64))])) _
            refine XS.lload X0.here hx rfl (hb hby d1_95) rfl ?_
            show Steps p.tables e below (s₁.setTop (mkF m 97 _ [(.long ((q1 &&& (4294967295 : Int64)) * (q2 &&& (4294967295 : Int64)))), (.long (((((q1.toUInt64 >>> ((32 : Int32) &&& 0x3f).toInt64.toUInt64).toInt64) * (q2 &&& (4294967295 : Int64))) + ((q1 &&& (4294967295 : Int64)) * ((q2.toUInt64 >>> ((32 : Int32) &&& 0x3f).toInt64.toUInt64).toInt64))) <<< ((32 : Int32) &&& 0x3f).toInt64))])) _
            refine XS.ladd X0.here hx rfl (hb hby d1_97) rfl ?_
            show Steps p.tables e below (s₁.setTop (mkF m 98 _ [(.long ((((((q1.toUInt64 >>> ((32 : Int32) &&& 0x3f).toInt64.toUInt64).toInt64) * (q2 &&& (4294967295 : Int64))) + ((q1 &&& (4294967295 : Int64)) * ((q2.toUInt64 >>> ((32 : Int32) &&& 0x3f).toInt64.toUInt64).toInt64))) <<< ((32 : Int32) &&& 0x3f).toInt64) + ((q1 &&& (4294967295 : Int64)) * (q2 &&& (4294967295 : Int64)))))])) _
            refine XS.lstore X0.here hx rfl (hb hby d1_98) rfl (l' := #[.val (.long q1), .second, .val (.long q2), .second, .val (.long (9223372036854775807 : Int64)), .second, .val (.long ((q1.toUInt64 >>> ((32 : Int32) &&& 0x3f).toInt64.toUInt64).toInt64)), .second, .val (.long (q1 &&& (4294967295 : Int64))), .second, .val (.long ((q2.toUInt64 >>> ((32 : Int32) &&& 0x3f).toInt64.toUInt64).toInt64)), .second, .val (.long (q2 &&& (4294967295 : Int64))), .second, .val (.long ((((q1.toUInt64 >>> ((32 : Int32) &&& 0x3f).toInt64.toUInt64).toInt64) * (q2 &&& (4294967295 : Int64))) + ((q1 &&& (4294967295 : Int64)) * ((q2.toUInt64 >>> ((32 : Int32) &&& 0x3f).toInt64.toUInt64).toInt64)))), .second, .val (.long ((q1 &&& (4294967295 : Int64)) * (q2 &&& (4294967295 : Int64)))), .second, .val (.long ((((((q1.toUInt64 >>> ((32 : Int32) &&& 0x3f).toInt64.toUInt64).toInt64) * (q2 &&& (4294967295 : Int64))) + ((q1 &&& (4294967295 : Int64)) * ((q2.toUInt64 >>> ((32 : Int32) &&& 0x3f).toInt64.toUInt64).toInt64))) <<< ((32 : Int32) &&& 0x3f).toInt64) + ((q1 &&& (4294967295 : Int64)) * (q2 &&& (4294967295 : Int64))))), .second]) rfl ?_
            show Steps p.tables e below (s₁.setTop (mkF m 100 _ [])) _
            refine XS.lload X0.here hx rfl (hb hby d1_100) rfl ?_
            show Steps p.tables e below (s₁.setTop (mkF m 102 _ [(.long ((((((q1.toUInt64 >>> ((32 : Int32) &&& 0x3f).toInt64.toUInt64).toInt64) * (q2 &&& (4294967295 : Int64))) + ((q1 &&& (4294967295 : Int64)) * ((q2.toUInt64 >>> ((32 : Int32) &&& 0x3f).toInt64.toUInt64).toInt64))) <<< ((32 : Int32) &&& 0x3f).toInt64) + ((q1 &&& (4294967295 : Int64)) * (q2 &&& (4294967295 : Int64)))))])) _
            refine XS.lconst X0.here hx rfl (hb hby d1_102) ?_
            show Steps p.tables e below (s₁.setTop (mkF m 103 _ [(.long (0 : Int64)), (.long ((((((q1.toUInt64 >>> ((32 : Int32) &&& 0x3f).toInt64.toUInt64).toInt64) * (q2 &&& (4294967295 : Int64))) + ((q1 &&& (4294967295 : Int64)) * ((q2.toUInt64 >>> ((32 : Int32) &&& 0x3f).toInt64.toUInt64).toInt64))) <<< ((32 : Int32) &&& 0x3f).toInt64) + ((q1 &&& (4294967295 : Int64)) * (q2 &&& (4294967295 : Int64)))))])) _
            refine XS.lcmp X0.here hx rfl (hb hby d1_103) rfl ?_
            exact kt
          by_cases hc18 : ((((((q1.toUInt64 >>> ((32 : Int32) &&& 0x3f).toInt64.toUInt64).toInt64) * (q2 &&& (4294967295 : Int64))) + ((q1 &&& (4294967295 : Int64)) * ((q2.toUInt64 >>> ((32 : Int32) &&& 0x3f).toInt64.toUInt64).toInt64))) <<< ((32 : Int32) &&& 0x3f).toInt64) + ((q1 &&& (4294967295 : Int64)) * (q2 &&& (4294967295 : Int64)))) < (0 : Int64)
          · skip
            obtain ⟨fs, hr, hrun, hended, hW, hsame⟩ := X0.leave (v := some (.long (9223372036854775807 : Int64))) (fun h => by rw [Bd.returns] at h; cases h) (by first | exact BodyLoose.notSynchronized Bd | exact Body.notSynchronized Bd)
            refine ⟨_, _, pre17 _ ?_, hrun, hended, _, _, rfl, ?_, ⟨_, rfl⟩, hW, hsame.mono (by decide) (by decide)⟩
            · show Steps p.tables e below (s₁.setTop (mkF m 104 #[.val (.long q1), .second, .val (.long q2), .second, .val (.long (9223372036854775807 : Int64)), .second, .val (.long ((q1.toUInt64 >>> ((32 : Int32) &&& 0x3f).toInt64.toUInt64).toInt64)), .second, .val (.long (q1 &&& (4294967295 : Int64))), .second, .val (.long ((q2.toUInt64 >>> ((32 : Int32) &&& 0x3f).toInt64.toUInt64).toInt64)), .second, .val (.long (q2 &&& (4294967295 : Int64))), .second, .val (.long ((((q1.toUInt64 >>> ((32 : Int32) &&& 0x3f).toInt64.toUInt64).toInt64) * (q2 &&& (4294967295 : Int64))) + ((q1 &&& (4294967295 : Int64)) * ((q2.toUInt64 >>> ((32 : Int32) &&& 0x3f).toInt64.toUInt64).toInt64)))), .second, .val (.long ((q1 &&& (4294967295 : Int64)) * (q2 &&& (4294967295 : Int64)))), .second, .val (.long ((((((q1.toUInt64 >>> ((32 : Int32) &&& 0x3f).toInt64.toUInt64).toInt64) * (q2 &&& (4294967295 : Int64))) + ((q1 &&& (4294967295 : Int64)) * ((q2.toUInt64 >>> ((32 : Int32) &&& 0x3f).toInt64.toUInt64).toInt64))) <<< ((32 : Int32) &&& 0x3f).toInt64) + ((q1 &&& (4294967295 : Int64)) * (q2 &&& (4294967295 : Int64))))), .second] [(.int (lcmpW ((((((q1.toUInt64 >>> ((32 : Int32) &&& 0x3f).toInt64.toUInt64).toInt64) * (q2 &&& (4294967295 : Int64))) + ((q1 &&& (4294967295 : Int64)) * ((q2.toUInt64 >>> ((32 : Int32) &&& 0x3f).toInt64.toUInt64).toInt64))) <<< ((32 : Int32) &&& 0x3f).toInt64) + ((q1 &&& (4294967295 : Int64)) * (q2 &&& (4294967295 : Int64)))) (0 : Int64)))])) _
              refine XS.ifNo X0.here hx rfl (hb hby d1_104) rfl ((if0 _ _).trans (tlt ((lw_lt _ _).mpr hc18)).2.1) ?_
              show Steps p.tables e below (s₁.setTop (mkF m 107 _ [])) _
              refine XS.lload X0.here hx rfl (hb hby d1_107) rfl ?_
              show Steps p.tables e below (s₁.setTop (mkF m 109 #[.val (.long q1), .second, .val (.long q2), .second, .val (.long (9223372036854775807 : Int64)), .second, .val (.long ((q1.toUInt64 >>> ((32 : Int32) &&& 0x3f).toInt64.toUInt64).toInt64)), .second, .val (.long (q1 &&& (4294967295 : Int64))), .second, .val (.long ((q2.toUInt64 >>> ((32 : Int32) &&& 0x3f).toInt64.toUInt64).toInt64)), .second, .val (.long (q2 &&& (4294967295 : Int64))), .second, .val (.long ((((q1.toUInt64 >>> ((32 : Int32) &&& 0x3f).toInt64.toUInt64).toInt64) * (q2 &&& (4294967295 : Int64))) + ((q1 &&& (4294967295 : Int64)) * ((q2.toUInt64 >>> ((32 : Int32) &&& 0x3f).toInt64.toUInt64).toInt64)))), .second, .val (.long ((q1 &&& (4294967295 : Int64)) * (q2 &&& (4294967295 : Int64)))), .second, .val (.long ((((((q1.toUInt64 >>> ((32 : Int32) &&& 0x3f).toInt64.toUInt64).toInt64) * (q2 &&& (4294967295 : Int64))) + ((q1 &&& (4294967295 : Int64)) * ((q2.toUInt64 >>> ((32 : Int32) &&& 0x3f).toInt64.toUInt64).toInt64))) <<< ((32 : Int32) &&& 0x3f).toInt64) + ((q1 &&& (4294967295 : Int64)) * (q2 &&& (4294967295 : Int64))))), .second] [(.long (9223372036854775807 : Int64))])) _
              exact X0.lreturnOut hx Bd.returns (hb hby d1_109) hr
            · show Q1 Z q1 q2 h0 n0 _ s₁.heap _
              rw [e0]
              exact ⟨congrArg (fun z => some (Value.long z)) (by rw [f1, if_neg hc4, if_pos hc12, if_pos hc14, if_neg hc16, if_pos hc18] : f1 q1 q2 = (9223372036854775807 : Int64)).symm, N0, rfl⟩
          · skip
            obtain ⟨fs, hr, hrun, hended, hW, hsame⟩ := X0.leave (v := some (.long ((((((q1.toUInt64 >>> ((32 : Int32) &&& 0x3f).toInt64.toUInt64).toInt64) * (q2 &&& (4294967295 : Int64))) + ((q1 &&& (4294967295 : Int64)) * ((q2.toUInt64 >>> ((32 : Int32) &&& 0x3f).toInt64.toUInt64).toInt64))) <<< ((32 : Int32) &&& 0x3f).toInt64) + ((q1 &&& (4294967295 : Int64)) * (q2 &&& (4294967295 : Int64)))))) (fun h => by rw [Bd.returns] at h; cases h) (by first | exact BodyLoose.notSynchronized Bd | exact Body.notSynchronized Bd)
            refine ⟨_, _, pre17 _ ?_, hrun, hended, _, _, rfl, ?_, ⟨_, rfl⟩, hW, hsame.mono (by decide) (by decide)⟩
            · show Steps p.tables e below (s₁.setTop (mkF m 104 #[.val (.long q1), .second, .val (.long q2), .second, .val (.long (9223372036854775807 : Int64)), .second, .val (.long ((q1.toUInt64 >>> ((32 : Int32) &&& 0x3f).toInt64.toUInt64).toInt64)), .second, .val (.long (q1 &&& (4294967295 : Int64))), .second, .val (.long ((q2.toUInt64 >>> ((32 : Int32) &&& 0x3f).toInt64.toUInt64).toInt64)), .second, .val (.long (q2 &&& (4294967295 : Int64))), .second, .val (.long ((((q1.toUInt64 >>> ((32 : Int32) &&& 0x3f).toInt64.toUInt64).toInt64) * (q2 &&& (4294967295 : Int64))) + ((q1 &&& (4294967295 : Int64)) * ((q2.toUInt64 >>> ((32 : Int32) &&& 0x3f).toInt64.toUInt64).toInt64)))), .second, .val (.long ((q1 &&& (4294967295 : Int64)) * (q2 &&& (4294967295 : Int64)))), .second, .val (.long ((((((q1.toUInt64 >>> ((32 : Int32) &&& 0x3f).toInt64.toUInt64).toInt64) * (q2 &&& (4294967295 : Int64))) + ((q1 &&& (4294967295 : Int64)) * ((q2.toUInt64 >>> ((32 : Int32) &&& 0x3f).toInt64.toUInt64).toInt64))) <<< ((32 : Int32) &&& 0x3f).toInt64) + ((q1 &&& (4294967295 : Int64)) * (q2 &&& (4294967295 : Int64))))), .second] [(.int (lcmpW ((((((q1.toUInt64 >>> ((32 : Int32) &&& 0x3f).toInt64.toUInt64).toInt64) * (q2 &&& (4294967295 : Int64))) + ((q1 &&& (4294967295 : Int64)) * ((q2.toUInt64 >>> ((32 : Int32) &&& 0x3f).toInt64.toUInt64).toInt64))) <<< ((32 : Int32) &&& 0x3f).toInt64) + ((q1 &&& (4294967295 : Int64)) * (q2 &&& (4294967295 : Int64)))) (0 : Int64)))])) _
              refine XS.ifYes X0.here hx rfl (pc0 := 104) (pc' := 110) rfl (hb hby d1_104) rfl ((if0 _ _).trans (flt (mt (lw_lt _ _).mp hc18)).2.1) (by decide) (by decide) ?_
              show Steps p.tables e below (s₁.setTop (mkF m 110 _ [])) _
              refine XS.lload X0.here hx rfl (hb hby d1_110) rfl ?_
              show Steps p.tables e below (s₁.setTop (mkF m 112 #[.val (.long q1), .second, .val (.long q2), .second, .val (.long (9223372036854775807 : Int64)), .second, .val (.long ((q1.toUInt64 >>> ((32 : Int32) &&& 0x3f).toInt64.toUInt64).toInt64)), .second, .val (.long (q1 &&& (4294967295 : Int64))), .second, .val (.long ((q2.toUInt64 >>> ((32 : Int32) &&& 0x3f).toInt64.toUInt64).toInt64)), .second, .val (.long (q2 &&& (4294967295 : Int64))), .second, .val (.long ((((q1.toUInt64 >>> ((32 : Int32) &&& 0x3f).toInt64.toUInt64).toInt64) * (q2 &&& (4294967295 : Int64))) + ((q1 &&& (4294967295 : Int64)) * ((q2.toUInt64 >>> ((32 : Int32) &&& 0x3f).toInt64.toUInt64).toInt64)))), .second, .val (.long ((q1 &&& (4294967295 : Int64)) * (q2 &&& (4294967295 : Int64)))), .second, .val (.long ((((((q1.toUInt64 >>> ((32 : Int32) &&& 0x3f).toInt64.toUInt64).toInt64) * (q2 &&& (4294967295 : Int64))) + ((q1 &&& (4294967295 : Int64)) * ((q2.toUInt64 >>> ((32 : Int32) &&& 0x3f).toInt64.toUInt64).toInt64))) <<< ((32 : Int32) &&& 0x3f).toInt64) + ((q1 &&& (4294967295 : Int64)) * (q2 &&& (4294967295 : Int64))))), .second] [(.long ((((((q1.toUInt64 >>> ((32 : Int32) &&& 0x3f).toInt64.toUInt64).toInt64) * (q2 &&& (4294967295 : Int64))) + ((q1 &&& (4294967295 : Int64)) * ((q2.toUInt64 >>> ((32 : Int32) &&& 0x3f).toInt64.toUInt64).toInt64))) <<< ((32 : Int32) &&& 0x3f).toInt64) + ((q1 &&& (4294967295 : Int64)) * (q2 &&& (4294967295 : Int64)))))])) _
              exact X0.lreturnOut hx Bd.returns (hb hby d1_112) hr
            · show Q1 Z q1 q2 h0 n0 _ s₁.heap _
              rw [e0]
              exact ⟨congrArg (fun z => some (Value.long z)) (by rw [f1, if_neg hc4, if_pos hc12, if_pos hc14, if_neg hc16, if_neg hc18] : f1 q1 q2 = ((((((q1.toUInt64 >>> ((32 : Int32) &&& 0x3f).toInt64.toUInt64).toInt64) * (q2 &&& (4294967295 : Int64))) + ((q1 &&& (4294967295 : Int64)) * ((q2.toUInt64 >>> ((32 : Int32) &&& 0x3f).toInt64.toUInt64).toInt64))) <<< ((32 : Int32) &&& 0x3f).toInt64) + ((q1 &&& (4294967295 : Int64)) * (q2 &&& (4294967295 : Int64))))).symm, N0, rfl⟩
      · skip
        obtain ⟨fs, hr, hrun, hended, hW, hsame⟩ := X0.leave (v := some (.long (9223372036854775807 : Int64))) (fun h => by rw [Bd.returns] at h; cases h) (by first | exact BodyLoose.notSynchronized Bd | exact Body.notSynchronized Bd)
        refine ⟨_, _, pre13 _ ?_, hrun, hended, _, _, rfl, ?_, ⟨_, rfl⟩, hW, hsame.mono (by decide) (by decide)⟩
        · show Steps p.tables e below (s₁.setTop (mkF m 67 #[.val (.long q1), .second, .val (.long q2), .second, .val (.long (9223372036854775807 : Int64)), .second, .val (.long ((q1.toUInt64 >>> ((32 : Int32) &&& 0x3f).toInt64.toUInt64).toInt64)), .second, .val (.long (q1 &&& (4294967295 : Int64))), .second, .val (.long ((q2.toUInt64 >>> ((32 : Int32) &&& 0x3f).toInt64.toUInt64).toInt64)), .second, .val (.long (q2 &&& (4294967295 : Int64))), .second, .val (.long ((((q1.toUInt64 >>> ((32 : Int32) &&& 0x3f).toInt64.toUInt64).toInt64) * (q2 &&& (4294967295 : Int64))) + ((q1 &&& (4294967295 : Int64)) * ((q2.toUInt64 >>> ((32 : Int32) &&& 0x3f).toInt64.toUInt64).toInt64)))), .second, .unset, .unset, .unset, .unset] [(.int (lcmpW ((((q1.toUInt64 >>> ((32 : Int32) &&& 0x3f).toInt64.toUInt64).toInt64) * (q2 &&& (4294967295 : Int64))) + ((q1 &&& (4294967295 : Int64)) * ((q2.toUInt64 >>> ((32 : Int32) &&& 0x3f).toInt64.toUInt64).toInt64))) (2147483648 : Int64)))])) _
          refine XS.ifNo X0.here hx rfl (hb hby d1_67) rfl ((if0 _ _).trans (flt (mt (lw_lt _ _).mp hc14)).1) ?_
          show Steps p.tables e below (s₁.setTop (mkF m 70 _ [])) _
          refine XS.lload X0.here hx rfl (hb hby d1_70) rfl ?_
          show Steps p.tables e below (s₁.setTop (mkF m 72 #[.val (.long q1), .second, .val (.long q2), .second, .val (.long (9223372036854775807 : Int64)), .second, .val (.long ((q1.toUInt64 >>> ((32 : Int32) &&& 0x3f).toInt64.toUInt64).toInt64)), .second, .val (.long (q1 &&& (4294967295 : Int64))), .second, .val (.long ((q2.toUInt64 >>> ((32 : Int32) &&& 0x3f).toInt64.toUInt64).toInt64)), .second, .val (.long (q2 &&& (4294967295 : Int64))), .second, .val (.long ((((q1.toUInt64 >>> ((32 : Int32) &&& 0x3f).toInt64.toUInt64).toInt64) * (q2 &&& (4294967295 : Int64))) + ((q1 &&& (4294967295 : Int64)) * ((q2.toUInt64 >>> ((32 : Int32) &&& 0x3f).toInt64.toUInt64).toInt64)))), .second, .unset, .unset, .unset, .unset] [(.long (9223372036854775807 : Int64))])) _
          exact X0.lreturnOut hx Bd.returns (hb hby d1_72) hr
        · show Q1 Z q1 q2 h0 n0 _ s₁.heap _
          rw [e0]
          exact ⟨congrArg (fun z => some (Value.long z)) (by rw [f1, if_neg hc4, if_pos hc12, if_neg hc14] : f1 q1 q2 = (9223372036854775807 : Int64)).symm, N0, rfl⟩
    · skip
      obtain ⟨fs, hr, hrun, hended, hW, hsame⟩ := X0.leave (v := some (.long (9223372036854775807 : Int64))) (fun h => by rw [Bd.returns] at h; cases h) (by first | exact BodyLoose.notSynchronized Bd | exact Body.notSynchronized Bd)
      refine ⟨_, _, pre11 _ ?_, hrun, hended, _, _, rfl, ?_, ⟨_, rfl⟩, hW, hsame.mono (by decide) (by decide)⟩
      · show Steps p.tables e below (s₁.setTop (mkF m 42 #[.val (.long q1), .second, .val (.long q2), .second, .val (.long (9223372036854775807 : Int64)), .second, .val (.long ((q1.toUInt64 >>> ((32 : Int32) &&& 0x3f).toInt64.toUInt64).toInt64)), .second, .val (.long (q1 &&& (4294967295 : Int64))), .second, .val (.long ((q2.toUInt64 >>> ((32 : Int32) &&& 0x3f).toInt64.toUInt64).toInt64)), .second, .val (.long (q2 &&& (4294967295 : Int64))), .second, .unset, .unset, .unset, .unset, .unset, .unset] [(.int (lcmpW ((q2.toUInt64 >>> ((32 : Int32) &&& 0x3f).toInt64.toUInt64).toInt64) (0 : Int64)))])) _
        refine XS.ifNo X0.here hx rfl (hb hby d1_42) rfl ((if0 _ _).trans (feq (mt (lw_eq _ _).mp hc12)).1) ?_
        show Steps p.tables e below (s₁.setTop (mkF m 45 _ [])) _
        refine XS.lload X0.here hx rfl (hb hby d1_45) rfl ?_
        show Steps p.tables e below (s₁.setTop (mkF m 47 #[.val (.long q1), .second, .val (.long q2), .second, .val (.long (9223372036854775807 : Int64)), .second, .val (.long ((q1.toUInt64 >>> ((32 : Int32) &&& 0x3f).toInt64.toUInt64).toInt64)), .second, .val (.long (q1 &&& (4294967295 : Int64))), .second, .val (.long ((q2.toUInt64 >>> ((32 : Int32) &&& 0x3f).toInt64.toUInt64).toInt64)), .second, .val (.long (q2 &&& (4294967295 : Int64))), .second, .unset, .unset, .unset, .unset, .unset, .unset] [(.long (9223372036854775807 : Int64))])) _
        exact X0.lreturnOut hx Bd.returns (hb hby d1_47) hr
      · show Q1 Z q1 q2 h0 n0 _ s₁.heap _
        rw [e0]
        exact ⟨congrArg (fun z => some (Value.long z)) (by rw [f1, if_neg hc4, if_neg hc12] : f1 q1 q2 = (9223372036854775807 : Int64)).symm, N0, rfl⟩
theorem d2_0 : decode prog_31_method_3_code 0 = .ok (.lload_n 0, 1) := by decide +kernel
theorem d2_1 : decode prog_31_method_3_code 1 = .ok (.lconst 0, 1) := by decide +kernel
theorem d2_2 : decode prog_31_method_3_code 2 = .ok (.lcmp, 1) := by decide +kernel
theorem d2_3 : decode prog_31_method_3_code 3 = .ok (.ifCond .eq 19, 3) := by decide +kernel
theorem d2_6 : decode prog_31_method_3_code 6 = .ok (.lload_n 2, 1) := by decide +kernel
theorem d2_7 : decode prog_31_method_3_code 7 = .ok (.ldc2_w 11, 3) := by decide +kernel
theorem d2_10 : decode prog_31_method_3_code 10 = .ok (.lload_n 0, 1) := by decide +kernel
theorem d2_11 : decode prog_31_method_3_code 11 = .ok (.ldiv, 1) := by decide +kernel
theorem d2_12 : decode prog_31_method_3_code 12 = .ok (.lcmp, 1) := by decide +kernel
theorem d2_13 : decode prog_31_method_3_code 13 = .ok (.ifCond .le 9, 3) := by decide +kernel
theorem d2_16 : decode prog_31_method_3_code 16 = .ok (.ldc2_w 11, 3) := by decide +kernel
theorem d2_19 : decode prog_31_method_3_code 19 = .ok (.goto 6, 3) := by decide +kernel
theorem d2_22 : decode prog_31_method_3_code 22 = .ok (.lload_n 0, 1) := by decide +kernel
theorem d2_23 : decode prog_31_method_3_code 23 = .ok (.lload_n 2, 1) := by decide +kernel
theorem d2_24 : decode prog_31_method_3_code 24 = .ok (.lmul, 1) := by decide +kernel
theorem d2_25 : decode prog_31_method_3_code 25 = .ok (.lreturn, 1) := by decide +kernel
theorem pn_2 : plainName "com/example/boundsmith/boundsmith/internal/Count" = true := by first | (simp [plainName, overriddenIn]; done) | decide +kernel
theorem ef_2 (m : MethodId) (x0 : Int64) (x1 : Int64) : entryFrame m #[(.long x0), (.long x1)] 4 = mkF m 0 #[.val (.long x0), .second, .val (.long x1), .second] [] := by first | (simp [entryFrame, mkF, argsToLocals, Value.category]; done) | rfl
def f2 (q1 : Int64) (q2 : Int64) : Int64 := (if q1 = (0 : Int64) then (q1 * q2) else (if ((9223372036854775807 : Int64) / q1) < q2 then (9223372036854775807 : Int64) else (q1 * q2)))
def Q2 (Z : State) (q1 : Int64) (q2 : Int64) (h0 : Heap) (n0 : Nat) (v : Option Value) (h : Heap) (L : List Loc) : Prop := v = some (.long (f2 q1 q2)) ∧ Fr n0 L ∧ h = h0
set_option maxRecDepth 65536 in
set_option maxHeartbeats 40000000 in
theorem rm2 (l : Launch) (Z : State) (a0 : Array Value) (hw : ∀ d ∈ tables_1, d.before a0 Z = true) (ws : List Jvm.Cond) (q1 : Int64) (q2 : Int64) (h0 : Heap) (n0 : Nat) (Z0 : n0 ≤ h0.size) :
    MetFree l (⟨"com/example/boundsmith/boundsmith/internal/Count", "times", "(JJ)J"⟩ : MethodName) (head1 (Jvm.Cond.code (⟨"com/example/boundsmith/boundsmith/internal/Count", "times", "(JJ)J"⟩ : MethodName) prog_31_method_3_code 4 (some .long) :: ws) ({ frames := 0, cells := 0, slots := 0, locals := 0 } : Room)) (fun a U => a = #[(.long q1), (.long q2)] ∧ Z.Warmed39 U.vm ∧ U.heap = h0) (fun _ _ _ _ _ => True) (fun _ U o U' => ∃ v L, o = .returned v ∧ Q2 Z q1 q2 h0 n0 v U'.heap L ∧ FrameEnd U o U' L ({ frames := 0, cells := 0, slots := 0, locals := 0 } : Room).cells ({ frames := 0, cells := 0, slots := 0, locals := 0 } : Room).slots) := by
  refine MetFree.of_bodySF (plainFor_of_name pn_2) hisR ?_
  intro p e s m args below meth c s₁ Bd hml0 hP hK
  obtain ⟨rfl, hZ, hh⟩ := hP
  have hx := Bd.exec
  have hby := Bd.bytes
  have hml : c.maxLocals = 4 := hml0
  have hown : s.vm.findClass "com/example/boundsmith/boundsmith/internal/Count" = some m.cls := findClass_of_methodNamed Bd.named
  have hnm := (name_of_methodNamed Bd.named Bd.method).1
  have X0 : Stand p l e ({ frames := 0, cells := 0, slots := 0, locals := 0 } : Room) s m #[(.long q1), (.long q2)] below meth c s₁ [] 0 0 := Stand.of_body Bd
  have e0 : s₁.heap = h0 := by rw [← hh, Bd.state]; rfl
  have N0 := Fr.nil n0
  have pre0 : ∀ t, Steps p.tables e below (s₁.setTop (mkF m 0 #[.val (.long q1), .second, .val (.long q2), .second] [])) t → Steps p.tables e below (s₁.setTop (entryFrame m #[(.long q1), (.long q2)] 4)) t := fun t k => castTop (ef_2 m q1 q2) k
  have pre3 : ∀ t, Steps p.tables e below (s₁.setTop (mkF m 3 #[.val (.long q1), .second, .val (.long q2), .second] [(.int (lcmpW q1 (0 : Int64)))])) t → Steps p.tables e below (s₁.setTop (entryFrame m #[(.long q1), (.long q2)] 4)) t := fun t kt => by
    refine pre0 _ ?_
    show Steps p.tables e below (s₁.setTop (mkF m 0 #[.val (.long q1), .second, .val (.long q2), .second] [])) _
    refine XS.lloadN X0.here hx rfl (hb hby d2_0) rfl ?_
    show Steps p.tables e below (s₁.setTop (mkF m 1 _ [(.long q1)])) _
    refine XS.lconst X0.here hx rfl (hb hby d2_1) ?_
    show Steps p.tables e below (s₁.setTop (mkF m 2 _ [(.long (0 : Int64)), (.long q1)])) _
    refine XS.lcmp X0.here hx rfl (hb hby d2_2) rfl ?_
    exact kt
  by_cases hc4 : q1 = (0 : Int64)
  · skip
    obtain ⟨fs, hr, hrun, hended, hW, hsame⟩ := X0.leave (v := some (.long (q1 * q2))) (fun h => by rw [Bd.returns] at h; cases h) (by first | exact BodyLoose.notSynchronized Bd | exact Body.notSynchronized Bd)
    refine ⟨_, _, pre3 _ ?_, hrun, hended, _, _, rfl, ?_, ⟨_, rfl⟩, hW, hsame.mono (by decide) (by decide)⟩
    · show Steps p.tables e below (s₁.setTop (mkF m 3 #[.val (.long q1), .second, .val (.long q2), .second] [(.int (lcmpW q1 (0 : Int64)))])) _
      refine XS.ifYes X0.here hx rfl (pc0 := 3) (pc' := 22) rfl (hb hby d2_3) rfl ((if0 _ _).trans (teq ((lw_eq _ _).mpr hc4)).1) (by decide) (by decide) ?_
      show Steps p.tables e below (s₁.setTop (mkF m 22 _ [])) _
      refine XS.lloadN X0.here hx rfl (hb hby d2_22) rfl ?_
      show Steps p.tables e below (s₁.setTop (mkF m 23 _ [(.long q1)])) _
      refine XS.lloadN X0.here hx rfl (hb hby d2_23) rfl ?_
      show Steps p.tables e below (s₁.setTop (mkF m 24 _ [(.long q2), (.long q1)])) _
      refine XS.lmul X0.here hx rfl (hb hby d2_24) rfl ?_
      show Steps p.tables e below (s₁.setTop (mkF m 25 #[.val (.long q1), .second, .val (.long q2), .second] [(.long (q1 * q2))])) _
      exact X0.lreturnOut hx Bd.returns (hb hby d2_25) hr
    · show Q2 Z q1 q2 h0 n0 _ s₁.heap _
      rw [e0]
      exact ⟨congrArg (fun z => some (Value.long z)) (by rw [f2, if_pos hc4] : f2 q1 q2 = (q1 * q2)).symm, N0, rfl⟩
  · skip
    have pre5 : ∀ t, Steps p.tables e below (s₁.setTop (mkF m 13 #[.val (.long q1), .second, .val (.long q2), .second] [(.int (lcmpW q2 ((9223372036854775807 : Int64) / q1)))])) t → Steps p.tables e below (s₁.setTop (entryFrame m #[(.long q1), (.long q2)] 4)) t := fun t kt => by
      refine pre3 _ ?_
      show Steps p.tables e below (s₁.setTop (mkF m 3 #[.val (.long q1), .second, .val (.long q2), .second] [(.int (lcmpW q1 (0 : Int64)))])) _
      refine XS.ifNo X0.here hx rfl (hb hby d2_3) rfl ((if0 _ _).trans (feq (mt (lw_eq _ _).mp hc4)).1) ?_
      show Steps p.tables e below (s₁.setTop (mkF m 6 _ [])) _
      refine XS.lloadN X0.here hx rfl (hb hby d2_6) rfl ?_
      show Steps p.tables e below (s₁.setTop (mkF m 7 _ [(.long q2)])) _
      refine X0.ldc2Long hx hown (mvT hZ (hw _ (List.mem_of_getElem? (i := 11) rfl))) (g := (mkF m 7 #[.val (.long q1), .second, .val (.long q2), .second] [(.long q2)])) rfl (hb hby d2_7) _ ?_
      show Steps p.tables e below (s₁.setTop (mkF m 10 _ [(.long (9223372036854775807 : Int64)), (.long q2)])) _
      refine XS.lloadN X0.here hx rfl (hb hby d2_10) rfl ?_
      show Steps p.tables e below (s₁.setTop (mkF m 11 _ [(.long q1), (.long (9223372036854775807 : Int64)), (.long q2)])) _
      refine XS.ldiv X0.here hx rfl (hb hby d2_11) rfl hc4 ?_
      show Steps p.tables e below (s₁.setTop (mkF m 12 _ [(.long ((9223372036854775807 : Int64) / q1)), (.long q2)])) _
      refine XS.lcmp X0.here hx rfl (hb hby d2_12) rfl ?_
      exact kt
    by_cases hc6 : ((9223372036854775807 : Int64) / q1) < q2
    · skip
      obtain ⟨fs, hr, hrun, hended, hW, hsame⟩ := X0.leave (v := some (.long (9223372036854775807 : Int64))) (fun h => by rw [Bd.returns] at h; cases h) (by first | exact BodyLoose.notSynchronized Bd | exact Body.notSynchronized Bd)
      refine ⟨_, _, pre5 _ ?_, hrun, hended, _, _, rfl, ?_, ⟨_, rfl⟩, hW, hsame.mono (by decide) (by decide)⟩
      · show Steps p.tables e below (s₁.setTop (mkF m 13 #[.val (.long q1), .second, .val (.long q2), .second] [(.int (lcmpW q2 ((9223372036854775807 : Int64) / q1)))])) _
        refine XS.ifNo X0.here hx rfl (hb hby d2_13) rfl ((if0 _ _).trans (tlt ((lw_gt _ _).mpr hc6)).2.2.2) ?_
        show Steps p.tables e below (s₁.setTop (mkF m 16 _ [])) _
        refine X0.ldc2Long hx hown (mvT hZ (hw _ (List.mem_of_getElem? (i := 11) rfl))) (g := (mkF m 16 #[.val (.long q1), .second, .val (.long q2), .second] [])) rfl (hb hby d2_16) _ ?_
        show Steps p.tables e below (s₁.setTop (mkF m 19 _ [(.long (9223372036854775807 : Int64))])) _
        refine XS.goto X0.here hx rfl (pc0 := 19) (pc' := 25) rfl (hb hby d2_19) (by decide) (by decide) ?_
        show Steps p.tables e below (s₁.setTop (mkF m 25 #[.val (.long q1), .second, .val (.long q2), .second] [(.long (9223372036854775807 : Int64))])) _
        exact X0.lreturnOut hx Bd.returns (hb hby d2_25) hr
      · show Q2 Z q1 q2 h0 n0 _ s₁.heap _
        rw [e0]
        exact ⟨congrArg (fun z => some (Value.long z)) (by rw [f2, if_neg hc4, if_pos hc6] : f2 q1 q2 = (9223372036854775807 : Int64)).symm, N0, rfl⟩
    · skip
      obtain ⟨fs, hr, hrun, hended, hW, hsame⟩ := X0.leave (v := some (.long (q1 * q2))) (fun h => by rw [Bd.returns] at h; cases h) (by first | exact BodyLoose.notSynchronized Bd | exact Body.notSynchronized Bd)
      refine ⟨_, _, pre5 _ ?_, hrun, hended, _, _, rfl, ?_, ⟨_, rfl⟩, hW, hsame.mono (by decide) (by decide)⟩
      · show Steps p.tables e below (s₁.setTop (mkF m 13 #[.val (.long q1), .second, .val (.long q2), .second] [(.int (lcmpW q2 ((9223372036854775807 : Int64) / q1)))])) _
        refine XS.ifYes X0.here hx rfl (pc0 := 13) (pc' := 22) rfl (hb hby d2_13) rfl ((if0 _ _).trans (flt (mt (lw_gt _ _).mp hc6)).2.2.2) (by decide) (by decide) ?_
        show Steps p.tables e below (s₁.setTop (mkF m 22 _ [])) _
        refine XS.lloadN X0.here hx rfl (hb hby d2_22) rfl ?_
        show Steps p.tables e below (s₁.setTop (mkF m 23 _ [(.long q1)])) _
        refine XS.lloadN X0.here hx rfl (hb hby d2_23) rfl ?_
        show Steps p.tables e below (s₁.setTop (mkF m 24 _ [(.long q2), (.long q1)])) _
        refine XS.lmul X0.here hx rfl (hb hby d2_24) rfl ?_
        show Steps p.tables e below (s₁.setTop (mkF m 25 #[.val (.long q1), .second, .val (.long q2), .second] [(.long (q1 * q2))])) _
        exact X0.lreturnOut hx Bd.returns (hb hby d2_25) hr
      · show Q2 Z q1 q2 h0 n0 _ s₁.heap _
        rw [e0]
        exact ⟨congrArg (fun z => some (Value.long z)) (by rw [f2, if_neg hc4, if_neg hc6] : f2 q1 q2 = (q1 * q2)).symm, N0, rfl⟩
theorem pn_0 : plainName "com/example/boundsmith/boundsmith/internal/CountTimesPinLaw" = true := by first | (simp [plainName, overriddenIn]; done) | decide +kernel
theorem pd_0_0 : parseMethodDescriptor "(JJ)J" = some ⟨[.long, .long], some .long⟩ := by decide +kernel
theorem ef_0 (m : MethodId) (x0 : Int64) (x1 : Int64) (x2 : Int32) (x3 : Int32) : entryFrame m #[(.long x0), (.long x1), (.int x2), (.int x3)] maxLocals = mkF m 0 #[.val (.long x0), .second, .val (.long x1), .second, .val (.int x2), .val (.int x3), .unset, .unset, .unset, .unset, .unset, .unset] [] := by first | (simp [entryFrame, mkF, argsToLocals, Value.category, maxLocals]; done) | rfl
def f0 (q1 : Int64) (q2 : Int64) (p3 : Int32) (p4 : Int32) : Int32 := (if (f2 (((q1 &&& (9223372036854775807 : Int64)).toUInt64 >>> ((p3 &&& (63 : Int32)) &&& 0x3f).toInt64.toUInt64).toInt64) (((q2 &&& (9223372036854775807 : Int64)).toUInt64 >>> ((p4 &&& (63 : Int32)) &&& 0x3f).toInt64.toUInt64).toInt64)) = (f1 (((q1 &&& (9223372036854775807 : Int64)).toUInt64 >>> ((p3 &&& (63 : Int32)) &&& 0x3f).toInt64.toUInt64).toInt64) (((q2 &&& (9223372036854775807 : Int64)).toUInt64 >>> ((p4 &&& (63 : Int32)) &&& 0x3f).toInt64.toUInt64).toInt64)) then (1 : Int32) else (0 : Int32))
def Q0 (Z : State) (q1 : Int64) (q2 : Int64) (p3 : Int32) (p4 : Int32) (h0 : Heap) (n0 : Nat) (v : Option Value) (h : Heap) (L : List Loc) : Prop := v = some (.int (f0 q1 q2 p3 p4)) ∧ Fr n0 L
set_option maxRecDepth 65536 in
set_option maxHeartbeats 40000000 in
theorem rm0 (l : Launch) (Z : State) (a0 : Array Value) (hw : ∀ d ∈ tables_1, d.before a0 Z = true) (ws : List Jvm.Cond) (q1 : Int64) (q2 : Int64) (p3 : Int32) (p4 : Int32) (h0 : Heap) (n0 : Nat) (Z0 : n0 ≤ h0.size) :
    MetFree l x (head1 (Jvm.Cond.code x code maxLocals ret :: ws) room_1) (fun a U => a = #[(.long q1), (.long q2), (.int p3), (.int p4)] ∧ Z.Warmed39 U.vm ∧ U.heap = h0) (fun _ _ _ _ _ => True) (fun _ U o U' => ∃ v L, o = .returned v ∧ Q0 Z q1 q2 p3 p4 h0 n0 v U'.heap L ∧ FrameEnd U o U' L room_1.cells room_1.slots) := by
  refine MetFree.of_bodySF (plainFor_of_name pn_0) hisR ?_
  intro p e s m args below meth c s₁ Bd hml0 hP hK
  obtain ⟨rfl, hZ, hh⟩ := hP
  have hx := Bd.exec
  have hby := Bd.bytes
  have hml : c.maxLocals = 12 := hml0
  have hown : s.vm.findClass "com/example/boundsmith/boundsmith/internal/CountTimesPinLaw" = some m.cls := findClass_of_methodNamed Bd.named
  have hnm := (name_of_methodNamed Bd.named Bd.method).1
  have X0 : Stand p l e room_1 s m #[(.long q1), (.long q2), (.int p3), (.int p4)] below meth c s₁ [] 0 0 := Stand.of_body Bd
  have e0 : s₁.heap = h0 := by rw [← hh, Bd.state]; rfl
  have N0 := Fr.nil n0
  have pre0 : ∀ t, Steps p.tables e below (s₁.setTop (mkF m 0 #[.val (.long q1), .second, .val (.long q2), .second, .val (.int p3), .val (.int p4), .unset, .unset, .unset, .unset, .unset, .unset] [])) t → Steps p.tables e below (s₁.setTop (entryFrame m #[(.long q1), (.long q2), (.int p3), (.int p4)] maxLocals)) t := fun t k => castTop (ef_0 m q1 q2 p3 p4) k
  obtain ⟨_, _, ⟨T5, L5, k5, n5⟩, -, X5, ⟨Lc5, hQ5, l5, y5, z5⟩, st5⟩ := Jvm.LawKit.callS X0 hx (y := (⟨"com/example/boundsmith/boundsmith/internal/CountTimesPinLaw", "saturatedProduct", "(JJ)J"⟩ : MethodName)) hown (mvT hZ (hw _ (List.mem_of_getElem? (i := 1) rfl))) (mvT hZ (hw _ (List.mem_of_getElem? (i := 2) rfl))) (mvT hZ (hw _ (List.mem_of_getElem? (i := 3) rfl))) (mvT hZ (hw _ (List.mem_of_getElem? (i := 4) rfl))) (by decide) (backOf (W := 0) (rm1 l Z a0 hw [] (((q1 &&& (9223372036854775807 : Int64)).toUInt64 >>> ((p3 &&& (63 : Int32)) &&& 0x3f).toInt64.toUInt64).toInt64) (((q2 &&& (9223372036854775807 : Int64)).toUInt64 >>> ((p4 &&& (63 : Int32)) &&& 0x3f).toInt64.toUInt64).toInt64) h0 n0 Z0 ) hZ (hw _ (List.mem_of_getElem? (i := 4) rfl)) (hw _ (List.mem_of_getElem? (i := 3) rfl)) (by decide) (by decide)) (g := (mkF m 30 #[.val (.long q1), .second, .val (.long q2), .second, .val (.int p3), .val (.int p4), .val (.long (((q1 &&& (9223372036854775807 : Int64)).toUInt64 >>> ((p3 &&& (63 : Int32)) &&& 0x3f).toInt64.toUInt64).toInt64)), .second, .val (.long (((q2 &&& (9223372036854775807 : Int64)).toUInt64 >>> ((p4 &&& (63 : Int32)) &&& 0x3f).toInt64.toUInt64).toInt64)), .second, .unset, .unset] [(.long (((q2 &&& (9223372036854775807 : Int64)).toUInt64 >>> ((p4 &&& (63 : Int32)) &&& 0x3f).toInt64.toUInt64).toInt64)), (.long (((q1 &&& (9223372036854775807 : Int64)).toUInt64 >>> ((p3 &&& (63 : Int32)) &&& 0x3f).toInt64.toUInt64).toInt64))])) rfl (by rw [hml]; rfl) (argsL := [(.long (((q1 &&& (9223372036854775807 : Int64)).toUInt64 >>> ((p3 &&& (63 : Int32)) &&& 0x3f).toInt64.toUInt64).toInt64)), (.long (((q2 &&& (9223372036854775807 : Int64)).toUInt64 >>> ((p4 &&& (63 : Int32)) &&& 0x3f).toInt64.toUInt64).toInt64))]) (rest := []) (lenOf pd_0_0 rfl) rfl (by show 2 * 0 + _ ≤ _; exact Nat.le_of_eq rfl) (hb hby at_30) (fun _ _ => ⟨rfl, e0, (by decide : 0 + 0 ≤ _), (by decide : 0 + 0 ≤ _)⟩)
  dsimp only [Pt.U, Pt.locs, Pt.cells, Pt.slots] at X5 l5 y5 z5 st5 hQ5
  subst l5 y5 z5
  obtain ⟨rfl, N5q, e5⟩ := hQ5
  have N5 := Fr.app N0 N5q
  obtain ⟨_, _, ⟨T6, L6, k6, n6⟩, -, X6, ⟨Lc6, hQ6, l6, y6, z6⟩, st6⟩ := Jvm.LawKit.callS X5 hx (y := (⟨"com/example/boundsmith/boundsmith/internal/Count", "times", "(JJ)J"⟩ : MethodName)) hown (mvT hZ (hw _ (List.mem_of_getElem? (i := 7) rfl))) (mvT hZ (hw _ (List.mem_of_getElem? (i := 8) rfl))) (mvT hZ (hw _ (List.mem_of_getElem? (i := 9) rfl))) (mvT hZ (hw _ (List.mem_of_getElem? (i := 10) rfl))) (by decide) (backOf (W := 0) (rm2 l Z a0 hw [] (((q1 &&& (9223372036854775807 : Int64)).toUInt64 >>> ((p3 &&& (63 : Int32)) &&& 0x3f).toInt64.toUInt64).toInt64) (((q2 &&& (9223372036854775807 : Int64)).toUInt64 >>> ((p4 &&& (63 : Int32)) &&& 0x3f).toInt64.toUInt64).toInt64) h0 n0 Z0 ) hZ (hw _ (List.mem_of_getElem? (i := 10) rfl)) (hw _ (List.mem_of_getElem? (i := 9) rfl)) (by decide) (by decide)) (g := (mkF m 39 #[.val (.long q1), .second, .val (.long q2), .second, .val (.int p3), .val (.int p4), .val (.long (((q1 &&& (9223372036854775807 : Int64)).toUInt64 >>> ((p3 &&& (63 : Int32)) &&& 0x3f).toInt64.toUInt64).toInt64)), .second, .val (.long (((q2 &&& (9223372036854775807 : Int64)).toUInt64 >>> ((p4 &&& (63 : Int32)) &&& 0x3f).toInt64.toUInt64).toInt64)), .second, .val (.long (f1 (((q1 &&& (9223372036854775807 : Int64)).toUInt64 >>> ((p3 &&& (63 : Int32)) &&& 0x3f).toInt64.toUInt64).toInt64) (((q2 &&& (9223372036854775807 : Int64)).toUInt64 >>> ((p4 &&& (63 : Int32)) &&& 0x3f).toInt64.toUInt64).toInt64))), .second] [(.long (((q2 &&& (9223372036854775807 : Int64)).toUInt64 >>> ((p4 &&& (63 : Int32)) &&& 0x3f).toInt64.toUInt64).toInt64)), (.long (((q1 &&& (9223372036854775807 : Int64)).toUInt64 >>> ((p3 &&& (63 : Int32)) &&& 0x3f).toInt64.toUInt64).toInt64))])) rfl (by rw [hml]; rfl) (argsL := [(.long (((q1 &&& (9223372036854775807 : Int64)).toUInt64 >>> ((p3 &&& (63 : Int32)) &&& 0x3f).toInt64.toUInt64).toInt64)), (.long (((q2 &&& (9223372036854775807 : Int64)).toUInt64 >>> ((p4 &&& (63 : Int32)) &&& 0x3f).toInt64.toUInt64).toInt64))]) (rest := []) (lenOf pd_0_0 rfl) rfl (by show 2 * 0 + _ ≤ _; exact Nat.le_of_eq rfl) (hb hby at_39) (fun _ _ => ⟨rfl, e5, (by decide : 0 + 0 ≤ _), (by decide : 0 + 0 ≤ _)⟩)
  dsimp only [Pt.U, Pt.locs, Pt.cells, Pt.slots] at X6 l6 y6 z6 st6 hQ6
  subst l6 y6 z6
  obtain ⟨rfl, N6q, e6⟩ := hQ6
  have N6 := Fr.app N5 N6q
  have pre7 : ∀ t, Steps p.tables e below (T6.setTop (mkF m 45 #[.val (.long q1), .second, .val (.long q2), .second, .val (.int p3), .val (.int p4), .val (.long (((q1 &&& (9223372036854775807 : Int64)).toUInt64 >>> ((p3 &&& (63 : Int32)) &&& 0x3f).toInt64.toUInt64).toInt64)), .second, .val (.long (((q2 &&& (9223372036854775807 : Int64)).toUInt64 >>> ((p4 &&& (63 : Int32)) &&& 0x3f).toInt64.toUInt64).toInt64)), .second, .val (.long (f1 (((q1 &&& (9223372036854775807 : Int64)).toUInt64 >>> ((p3 &&& (63 : Int32)) &&& 0x3f).toInt64.toUInt64).toInt64) (((q2 &&& (9223372036854775807 : Int64)).toUInt64 >>> ((p4 &&& (63 : Int32)) &&& 0x3f).toInt64.toUInt64).toInt64))), .second] [(.int (lcmpW (f2 (((q1 &&& (9223372036854775807 : Int64)).toUInt64 >>> ((p3 &&& (63 : Int32)) &&& 0x3f).toInt64.toUInt64).toInt64) (((q2 &&& (9223372036854775807 : Int64)).toUInt64 >>> ((p4 &&& (63 : Int32)) &&& 0x3f).toInt64.toUInt64).toInt64)) (f1 (((q1 &&& (9223372036854775807 : Int64)).toUInt64 >>> ((p3 &&& (63 : Int32)) &&& 0x3f).toInt64.toUInt64).toInt64) (((q2 &&& (9223372036854775807 : Int64)).toUInt64 >>> ((p4 &&& (63 : Int32)) &&& 0x3f).toInt64.toUInt64).toInt64))))])) t → Steps p.tables e below (s₁.setTop (entryFrame m #[(.long q1), (.long q2), (.int p3), (.int p4)] maxLocals)) t := fun t kt => by
    refine pre0 _ ?_
    show Steps p.tables e below (s₁.setTop (mkF m 0 #[.val (.long q1), .second, .val (.long q2), .second, .val (.int p3), .val (.int p4), .unset, .unset, .unset, .unset, .unset, .unset] [])) _
    refine XS.lloadN X0.here hx rfl (hb hby at_0) rfl ?_
    show Steps p.tables e below (s₁.setTop (mkF m 1 _ [(.long q1)])) _
    refine X0.ldc2Long hx hown (mvT hZ (hw _ (List.mem_of_getElem? (i := 0) rfl))) (g := (mkF m 1 #[.val (.long q1), .second, .val (.long q2), .second, .val (.int p3), .val (.int p4), .unset, .unset, .unset, .unset, .unset, .unset] [(.long q1)])) rfl (hb hby at_1) _ ?_
    show Steps p.tables e below (s₁.setTop (mkF m 4 _ [(.long (9223372036854775807 : Int64)), (.long q1)])) _
    refine XS.land X0.here hx rfl (hb hby at_4) rfl ?_
    show Steps p.tables e below (s₁.setTop (mkF m 5 _ [(.long (q1 &&& (9223372036854775807 : Int64)))])) _
    refine XS.iload X0.here hx rfl (hb hby at_5) rfl ?_
    show Steps p.tables e below (s₁.setTop (mkF m 7 _ [(.int p3), (.long (q1 &&& (9223372036854775807 : Int64)))])) _
    refine XS.bipush X0.here hx rfl (hb hby at_7) ?_
    show Steps p.tables e below (s₁.setTop (mkF m 9 _ [(.int (63 : Int32)), (.int p3), (.long (q1 &&& (9223372036854775807 : Int64)))])) _
    refine XS.iand X0.here hx rfl (hb hby at_9) rfl ?_
    show Steps p.tables e below (s₁.setTop (mkF m 10 _ [(.int (p3 &&& (63 : Int32))), (.long (q1 &&& (9223372036854775807 : Int64)))])) _
    refine XS.lushr X0.here hx rfl (hb hby at_10) rfl ?_
    show Steps p.tables e below (s₁.setTop (mkF m 11 _ [(.long (((q1 &&& (9223372036854775807 : Int64)).toUInt64 >>> ((p3 &&& (63 : Int32)) &&& 0x3f).toInt64.toUInt64).toInt64))])) _
    refine XS.lstore X0.here hx rfl (hb hby at_11) rfl (l' := #[.val (.long q1), .second, .val (.long q2), .second, .val (.int p3), .val (.int p4), .val (.long (((q1 &&& (9223372036854775807 : Int64)).toUInt64 >>> ((p3 &&& (63 : Int32)) &&& 0x3f).toInt64.toUInt64).toInt64)), .second, .unset, .unset, .unset, .unset]) rfl ?_
    show Steps p.tables e below (s₁.setTop (mkF m 13 _ [])) _
    refine XS.lloadN X0.here hx rfl (hb hby at_13) rfl ?_
    show Steps p.tables e below (s₁.setTop (mkF m 14 _ [(.long q2)])) _
    refine X0.ldc2Long hx hown (mvT hZ (hw _ (List.mem_of_getElem? (i := 0) rfl))) (g := (mkF m 14 #[.val (.long q1), .second, .val (.long q2), .second, .val (.int p3), .val (.int p4), .val (.long (((q1 &&& (9223372036854775807 : Int64)).toUInt64 >>> ((p3 &&& (63 : Int32)) &&& 0x3f).toInt64.toUInt64).toInt64)), .second, .unset, .unset, .unset, .unset] [(.long q2)])) rfl (hb hby at_14) _ ?_
    show Steps p.tables e below (s₁.setTop (mkF m 17 _ [(.long (9223372036854775807 : Int64)), (.long q2)])) _
    refine XS.land X0.here hx rfl (hb hby at_17) rfl ?_
    show Steps p.tables e below (s₁.setTop (mkF m 18 _ [(.long (q2 &&& (9223372036854775807 : Int64)))])) _
    refine XS.iload X0.here hx rfl (hb hby at_18) rfl ?_
    show Steps p.tables e below (s₁.setTop (mkF m 20 _ [(.int p4), (.long (q2 &&& (9223372036854775807 : Int64)))])) _
    refine XS.bipush X0.here hx rfl (hb hby at_20) ?_
    show Steps p.tables e below (s₁.setTop (mkF m 22 _ [(.int (63 : Int32)), (.int p4), (.long (q2 &&& (9223372036854775807 : Int64)))])) _
    refine XS.iand X0.here hx rfl (hb hby at_22) rfl ?_
    show Steps p.tables e below (s₁.setTop (mkF m 23 _ [(.int (p4 &&& (63 : Int32))), (.long (q2 &&& (9223372036854775807 : Int64)))])) _
    refine XS.lushr X0.here hx rfl (hb hby at_23) rfl ?_
    show Steps p.tables e below (s₁.setTop (mkF m 24 _ [(.long (((q2 &&& (9223372036854775807 : Int64)).toUInt64 >>> ((p4 &&& (63 : Int32)) &&& 0x3f).toInt64.toUInt64).toInt64))])) _
    refine XS.lstore X0.here hx rfl (hb hby at_24) rfl (l' := #[.val (.long q1), .second, .val (.long q2), .second, .val (.int p3), .val (.int p4), .val (.long (((q1 &&& (9223372036854775807 : Int64)).toUInt64 >>> ((p3 &&& (63 : Int32)) &&& 0x3f).toInt64.toUInt64).toInt64)), .second, .val (.long (((q2 &&& (9223372036854775807 : Int64)).toUInt64 >>> ((p4 &&& (63 : Int32)) &&& 0x3f).toInt64.toUInt64).toInt64)), .second, .unset, .unset]) rfl ?_
    show Steps p.tables e below (s₁.setTop (mkF m 26 _ [])) _
    refine XS.lload X0.here hx rfl (hb hby at_26) rfl ?_
    show Steps p.tables e below (s₁.setTop (mkF m 28 _ [(.long (((q1 &&& (9223372036854775807 : Int64)).toUInt64 >>> ((p3 &&& (63 : Int32)) &&& 0x3f).toInt64.toUInt64).toInt64))])) _
    refine XS.lload X0.here hx rfl (hb hby at_28) rfl ?_
    show Steps p.tables e below (s₁.setTop (mkF m 30 _ [(.long (((q2 &&& (9223372036854775807 : Int64)).toUInt64 >>> ((p4 &&& (63 : Int32)) &&& 0x3f).toInt64.toUInt64).toInt64)), (.long (((q1 &&& (9223372036854775807 : Int64)).toUInt64 >>> ((p3 &&& (63 : Int32)) &&& 0x3f).toInt64.toUInt64).toInt64))])) _
    refine st5 _ ?_
    show Steps p.tables e below (T5.setTop (mkF m 33 _ [(.long (f1 (((q1 &&& (9223372036854775807 : Int64)).toUInt64 >>> ((p3 &&& (63 : Int32)) &&& 0x3f).toInt64.toUInt64).toInt64) (((q2 &&& (9223372036854775807 : Int64)).toUInt64 >>> ((p4 &&& (63 : Int32)) &&& 0x3f).toInt64.toUInt64).toInt64)))])) _
    refine XS.lstore X5.here hx rfl (hb hby at_33) rfl (l' := #[.val (.long q1), .second, .val (.long q2), .second, .val (.int p3), .val (.int p4), .val (.long (((q1 &&& (9223372036854775807 : Int64)).toUInt64 >>> ((p3 &&& (63 : Int32)) &&& 0x3f).toInt64.toUInt64).toInt64)), .second, .val (.long (((q2 &&& (9223372036854775807 : Int64)).toUInt64 >>> ((p4 &&& (63 : Int32)) &&& 0x3f).toInt64.toUInt64).toInt64)), .second, .val (.long (f1 (((q1 &&& (9223372036854775807 : Int64)).toUInt64 >>> ((p3 &&& (63 : Int32)) &&& 0x3f).toInt64.toUInt64).toInt64) (((q2 &&& (9223372036854775807 : Int64)).toUInt64 >>> ((p4 &&& (63 : Int32)) &&& 0x3f).toInt64.toUInt64).toInt64))), .second]) rfl ?_
    show Steps p.tables e below (T5.setTop (mkF m 35 _ [])) _
    refine XS.lload X5.here hx rfl (hb hby at_35) rfl ?_
    show Steps p.tables e below (T5.setTop (mkF m 37 _ [(.long (((q1 &&& (9223372036854775807 : Int64)).toUInt64 >>> ((p3 &&& (63 : Int32)) &&& 0x3f).toInt64.toUInt64).toInt64))])) _
    refine XS.lload X5.here hx rfl (hb hby at_37) rfl ?_
    show Steps p.tables e below (T5.setTop (mkF m 39 _ [(.long (((q2 &&& (9223372036854775807 : Int64)).toUInt64 >>> ((p4 &&& (63 : Int32)) &&& 0x3f).toInt64.toUInt64).toInt64)), (.long (((q1 &&& (9223372036854775807 : Int64)).toUInt64 >>> ((p3 &&& (63 : Int32)) &&& 0x3f).toInt64.toUInt64).toInt64))])) _
    refine st6 _ ?_
    show Steps p.tables e below (T6.setTop (mkF m 42 _ [(.long (f2 (((q1 &&& (9223372036854775807 : Int64)).toUInt64 >>> ((p3 &&& (63 : Int32)) &&& 0x3f).toInt64.toUInt64).toInt64) (((q2 &&& (9223372036854775807 : Int64)).toUInt64 >>> ((p4 &&& (63 : Int32)) &&& 0x3f).toInt64.toUInt64).toInt64)))])) _
    refine XS.lload X6.here hx rfl (hb hby at_42) rfl ?_
    show Steps p.tables e below (T6.setTop (mkF m 44 _ [(.long (f1 (((q1 &&& (9223372036854775807 : Int64)).toUInt64 >>> ((p3 &&& (63 : Int32)) &&& 0x3f).toInt64.toUInt64).toInt64) (((q2 &&& (9223372036854775807 : Int64)).toUInt64 >>> ((p4 &&& (63 : Int32)) &&& 0x3f).toInt64.toUInt64).toInt64))), (.long (f2 (((q1 &&& (9223372036854775807 : Int64)).toUInt64 >>> ((p3 &&& (63 : Int32)) &&& 0x3f).toInt64.toUInt64).toInt64) (((q2 &&& (9223372036854775807 : Int64)).toUInt64 >>> ((p4 &&& (63 : Int32)) &&& 0x3f).toInt64.toUInt64).toInt64)))])) _
    refine XS.lcmp X6.here hx rfl (hb hby at_44) rfl ?_
    exact kt
  by_cases hc8 : (f2 (((q1 &&& (9223372036854775807 : Int64)).toUInt64 >>> ((p3 &&& (63 : Int32)) &&& 0x3f).toInt64.toUInt64).toInt64) (((q2 &&& (9223372036854775807 : Int64)).toUInt64 >>> ((p4 &&& (63 : Int32)) &&& 0x3f).toInt64.toUInt64).toInt64)) = (f1 (((q1 &&& (9223372036854775807 : Int64)).toUInt64 >>> ((p3 &&& (63 : Int32)) &&& 0x3f).toInt64.toUInt64).toInt64) (((q2 &&& (9223372036854775807 : Int64)).toUInt64 >>> ((p4 &&& (63 : Int32)) &&& 0x3f).toInt64.toUInt64).toInt64))
  · skip
    obtain ⟨fs, hr, hrun, hended, hW, hsame⟩ := X6.leave (v := some (.int (1 : Int32))) (fun h => by rw [Bd.returns] at h; cases h) (by first | exact BodyLoose.notSynchronized Bd | exact Body.notSynchronized Bd)
    refine ⟨_, _, pre7 _ ?_, hrun, hended, _, _, rfl, ?_, ⟨_, rfl⟩, hW, hsame.mono (by decide) (by decide)⟩
    · show Steps p.tables e below (T6.setTop (mkF m 45 #[.val (.long q1), .second, .val (.long q2), .second, .val (.int p3), .val (.int p4), .val (.long (((q1 &&& (9223372036854775807 : Int64)).toUInt64 >>> ((p3 &&& (63 : Int32)) &&& 0x3f).toInt64.toUInt64).toInt64)), .second, .val (.long (((q2 &&& (9223372036854775807 : Int64)).toUInt64 >>> ((p4 &&& (63 : Int32)) &&& 0x3f).toInt64.toUInt64).toInt64)), .second, .val (.long (f1 (((q1 &&& (9223372036854775807 : Int64)).toUInt64 >>> ((p3 &&& (63 : Int32)) &&& 0x3f).toInt64.toUInt64).toInt64) (((q2 &&& (9223372036854775807 : Int64)).toUInt64 >>> ((p4 &&& (63 : Int32)) &&& 0x3f).toInt64.toUInt64).toInt64))), .second] [(.int (lcmpW (f2 (((q1 &&& (9223372036854775807 : Int64)).toUInt64 >>> ((p3 &&& (63 : Int32)) &&& 0x3f).toInt64.toUInt64).toInt64) (((q2 &&& (9223372036854775807 : Int64)).toUInt64 >>> ((p4 &&& (63 : Int32)) &&& 0x3f).toInt64.toUInt64).toInt64)) (f1 (((q1 &&& (9223372036854775807 : Int64)).toUInt64 >>> ((p3 &&& (63 : Int32)) &&& 0x3f).toInt64.toUInt64).toInt64) (((q2 &&& (9223372036854775807 : Int64)).toUInt64 >>> ((p4 &&& (63 : Int32)) &&& 0x3f).toInt64.toUInt64).toInt64))))])) _
      refine XS.ifNo X6.here hx rfl (hb hby at_45) rfl ((if0 _ _).trans (teq ((lw_eq _ _).mpr hc8)).2) ?_
      show Steps p.tables e below (T6.setTop (mkF m 48 _ [])) _
      refine XS.iconst X6.here hx rfl (hb hby at_48) ?_
      show Steps p.tables e below (T6.setTop (mkF m 49 _ [(.int (1 : Int32))])) _
      refine XS.goto X6.here hx rfl (pc0 := 49) (pc' := 53) rfl (hb hby at_49) (by decide) (by decide) ?_
      show Steps p.tables e below (T6.setTop (mkF m 53 #[.val (.long q1), .second, .val (.long q2), .second, .val (.int p3), .val (.int p4), .val (.long (((q1 &&& (9223372036854775807 : Int64)).toUInt64 >>> ((p3 &&& (63 : Int32)) &&& 0x3f).toInt64.toUInt64).toInt64)), .second, .val (.long (((q2 &&& (9223372036854775807 : Int64)).toUInt64 >>> ((p4 &&& (63 : Int32)) &&& 0x3f).toInt64.toUInt64).toInt64)), .second, .val (.long (f1 (((q1 &&& (9223372036854775807 : Int64)).toUInt64 >>> ((p3 &&& (63 : Int32)) &&& 0x3f).toInt64.toUInt64).toInt64) (((q2 &&& (9223372036854775807 : Int64)).toUInt64 >>> ((p4 &&& (63 : Int32)) &&& 0x3f).toInt64.toUInt64).toInt64))), .second] [(.int (1 : Int32))])) _
      exact retN X6 hx (t := .boolean) Bd.returns (by simp) (hb hby at_53) hr
    · show Q0 Z q1 q2 p3 p4 h0 n0 _ T6.heap _
      rw [e6]
      exact ⟨congrArg (fun z => some (Value.int z)) (by rw [f0, if_pos hc8] : f0 q1 q2 p3 p4 = (1 : Int32)).symm, N6⟩
  · skip
    obtain ⟨fs, hr, hrun, hended, hW, hsame⟩ := X6.leave (v := some (.int (0 : Int32))) (fun h => by rw [Bd.returns] at h; cases h) (by first | exact BodyLoose.notSynchronized Bd | exact Body.notSynchronized Bd)
    refine ⟨_, _, pre7 _ ?_, hrun, hended, _, _, rfl, ?_, ⟨_, rfl⟩, hW, hsame.mono (by decide) (by decide)⟩
    · show Steps p.tables e below (T6.setTop (mkF m 45 #[.val (.long q1), .second, .val (.long q2), .second, .val (.int p3), .val (.int p4), .val (.long (((q1 &&& (9223372036854775807 : Int64)).toUInt64 >>> ((p3 &&& (63 : Int32)) &&& 0x3f).toInt64.toUInt64).toInt64)), .second, .val (.long (((q2 &&& (9223372036854775807 : Int64)).toUInt64 >>> ((p4 &&& (63 : Int32)) &&& 0x3f).toInt64.toUInt64).toInt64)), .second, .val (.long (f1 (((q1 &&& (9223372036854775807 : Int64)).toUInt64 >>> ((p3 &&& (63 : Int32)) &&& 0x3f).toInt64.toUInt64).toInt64) (((q2 &&& (9223372036854775807 : Int64)).toUInt64 >>> ((p4 &&& (63 : Int32)) &&& 0x3f).toInt64.toUInt64).toInt64))), .second] [(.int (lcmpW (f2 (((q1 &&& (9223372036854775807 : Int64)).toUInt64 >>> ((p3 &&& (63 : Int32)) &&& 0x3f).toInt64.toUInt64).toInt64) (((q2 &&& (9223372036854775807 : Int64)).toUInt64 >>> ((p4 &&& (63 : Int32)) &&& 0x3f).toInt64.toUInt64).toInt64)) (f1 (((q1 &&& (9223372036854775807 : Int64)).toUInt64 >>> ((p3 &&& (63 : Int32)) &&& 0x3f).toInt64.toUInt64).toInt64) (((q2 &&& (9223372036854775807 : Int64)).toUInt64 >>> ((p4 &&& (63 : Int32)) &&& 0x3f).toInt64.toUInt64).toInt64))))])) _
      refine XS.ifYes X6.here hx rfl (pc0 := 45) (pc' := 52) rfl (hb hby at_45) rfl ((if0 _ _).trans (feq (mt (lw_eq _ _).mp hc8)).2) (by decide) (by decide) ?_
      show Steps p.tables e below (T6.setTop (mkF m 52 _ [])) _
      refine XS.iconst X6.here hx rfl (hb hby at_52) ?_
      show Steps p.tables e below (T6.setTop (mkF m 53 #[.val (.long q1), .second, .val (.long q2), .second, .val (.int p3), .val (.int p4), .val (.long (((q1 &&& (9223372036854775807 : Int64)).toUInt64 >>> ((p3 &&& (63 : Int32)) &&& 0x3f).toInt64.toUInt64).toInt64)), .second, .val (.long (((q2 &&& (9223372036854775807 : Int64)).toUInt64 >>> ((p4 &&& (63 : Int32)) &&& 0x3f).toInt64.toUInt64).toInt64)), .second, .val (.long (f1 (((q1 &&& (9223372036854775807 : Int64)).toUInt64 >>> ((p3 &&& (63 : Int32)) &&& 0x3f).toInt64.toUInt64).toInt64) (((q2 &&& (9223372036854775807 : Int64)).toUInt64 >>> ((p4 &&& (63 : Int32)) &&& 0x3f).toInt64.toUInt64).toInt64))), .second] [(.int (0 : Int32))])) _
      exact retN X6 hx (t := .boolean) Bd.returns (by simp) (hb hby at_53) hr
    · show Q0 Z q1 q2 p3 p4 h0 n0 _ T6.heap _
      rw [e6]
      exact ⟨congrArg (fun z => some (Value.int z)) (by rw [f0, if_neg hc8] : f0 q1 q2 p3 p4 = (0 : Int32)).symm, N6⟩
theorem own_le_mul {x y M N : Int} (hx : 0 ≤ x) (hy : 0 ≤ y) (h1 : x ≤ M) (h2 : y ≤ N) (hM : 0 ≤ M) : 0 ≤ x * y ∧ x * y ≤ M * N :=
  ⟨Int.mul_nonneg hx hy, Int.le_trans (Int.mul_le_mul_of_nonneg_right h1 hy) (Int.mul_le_mul_of_nonneg_left h2 hM)⟩
theorem own_f2 (a b : Int64) (ha : 0 ≤ a.toInt) (hb : 0 ≤ b.toInt) : (f2 a b).toInt = if a.toInt * b.toInt ≤ 9223372036854775807 then a.toInt * b.toInt else 9223372036854775807 := by
  have k0 : (0 : Int64).toInt = 0 := by decide
  have k1 : (9223372036854775807 : Int64).toInt = 9223372036854775807 := by decide
  unfold f2
  by_cases h0 : a = (0 : Int64)
  · rw [if_pos h0, h0, k0]
    simp
  · rw [if_neg h0]
    have hpos : 0 < a.toInt := by
      have : ¬ a.toInt = 0 := fun h => h0 (Int64.toInt_inj.mp (by rw [h, k0]))
      omega
    have hd : ((9223372036854775807 : Int64) / a).toInt = 9223372036854775807 / a.toInt := by
      have := (c_ldiv (9223372036854775807 : Int64) a a.toInt rfl (fun q => by rw [q] at hpos; revert hpos; decide)).1 (by rw [k1]; omega)
      rw [this, k1]
    have hiff : ((9223372036854775807 : Int64) / a < b) ↔ 9223372036854775807 < a.toInt * b.toInt := by
      rw [Int64.lt_iff_toInt_lt, hd, Int.ediv_lt_iff_lt_mul hpos, Int.mul_comm]
    have hnn := Int.mul_nonneg ha hb
    by_cases h : (9223372036854775807 : Int64) / a < b
    · rw [if_pos h, k1, if_neg]
      rw [hiff] at h
      omega
    · rw [if_neg h]
      rw [hiff] at h
      rw [if_pos (by omega)]
      exact Jvm.Kit.i64_mul (by omega) (by omega)
theorem own_f1 (a b : Int64) (ha : 0 ≤ a.toInt) (hb : 0 ≤ b.toInt) : (f1 a b).toInt = if a.toInt * b.toInt ≤ 9223372036854775807 then a.toInt * b.toInt else 9223372036854775807 := by
  have k0 : (0 : Int64).toInt = 0 := by decide
  have k1 : (9223372036854775807 : Int64).toInt = 9223372036854775807 := by decide
  have k2 : (2147483648 : Int64).toInt = 2147483648 := by decide
  have ra := rng64 a
  have rb := rng64 b
  have a1 := c_lushr a 32 32 (by decide) (by decide)
  have b1 := c_lushr b 32 32 (by decide) (by decide)
  have a2 := c_maskL a 4294967295 32 (by decide) (by decide)
  have b2 := c_maskL b 4294967295 32 (by decide) (by decide)
  unfold f1
  generalize ((a.toUInt64 >>> ((32 : Int32) &&& 0x3f).toInt64.toUInt64).toInt64) = ah at *
  generalize ((b.toUInt64 >>> ((32 : Int32) &&& 0x3f).toInt64.toUInt64).toInt64) = bh at *
  generalize (a &&& (4294967295 : Int64)) = al at *
  generalize (b &&& (4294967295 : Int64)) = bl at *
  have ah0 : 0 ≤ ah.toInt ∧ ah.toInt ≤ 2147483647 := by omega
  have bh0 : 0 ≤ bh.toInt ∧ bh.toInt ≤ 2147483647 := by omega
  have al0 : 0 ≤ al.toInt ∧ al.toInt ≤ 4294967295 := by omega
  have bl0 : 0 ≤ bl.toInt ∧ bl.toInt ≤ 4294967295 := by omega
  have ea : a.toInt = ah.toInt * 4294967296 + al.toInt := by omega
  have eb : b.toInt = bh.toInt * 4294967296 + bl.toInt := by omega
  have e : a.toInt * b.toInt = (ah.toInt * bh.toInt) * 18446744073709551616 + (ah.toInt * bl.toInt + al.toInt * bh.toInt) * 4294967296 + al.toInt * bl.toInt := by
    rw [ea, eb]; grind
  have p1 := own_le_mul ah0.1 bl0.1 ah0.2 bl0.2 (by omega)
  have p2 := own_le_mul al0.1 bh0.1 al0.2 bh0.2 (by omega)
  have p3 := own_le_mul al0.1 bl0.1 al0.2 bl0.2 (by omega)
  have p4 := own_le_mul ah0.1 bh0.1 ah0.2 bh0.2 (by omega)
  have m1 : (ah * bl).toInt = ah.toInt * bl.toInt := Jvm.Kit.i64_mul (by omega) (by omega)
  have m2 : (al * bh).toInt = al.toInt * bh.toInt := Jvm.Kit.i64_mul (by omega) (by omega)
  have m3 := c_lmul al bl
  have m3r := rng64 (al * bl)
  have hz (x : Int64) (h : x = (0 : Int64)) : x.toInt = 0 := by rw [h]; exact k0
  have hnz (x : Int64) (h : ¬ x = (0 : Int64)) : ¬ x.toInt = 0 := fun q => h (Int64.toInt_inj.mp (by rw [q, k0]))
  have body : ah.toInt * bh.toInt = 0 → (ah.toInt * bl.toInt = 0 ∨ al.toInt * bh.toInt = 0) → (if ((ah * bl) + (al * bh)) < (2147483648 : Int64) then (if (al * bl) < (0 : Int64) then (9223372036854775807 : Int64) else (if ((((ah * bl) + (al * bh)) <<< ((32 : Int32) &&& 0x3f).toInt64) + (al * bl)) < (0 : Int64) then (9223372036854775807 : Int64) else ((((ah * bl) + (al * bh)) <<< ((32 : Int32) &&& 0x3f).toInt64) + (al * bl)))) else (9223372036854775807 : Int64)).toInt = if a.toInt * b.toInt ≤ 9223372036854775807 then a.toInt * b.toInt else 9223372036854775807 := by
    intro h0 h1
    have hc : ((ah * bl) + (al * bh)).toInt = ah.toInt * bl.toInt + al.toInt * bh.toInt := by
      rw [← m1, ← m2]; exact Jvm.Kit.i64_add (by omega) (by omega)
    have hsh := c_lshl ((ah * bl) + (al * bh)) 32 32 (by decide)
    have hshr := rng64 (((ah * bl) + (al * bh)) <<< ((32 : Int32) &&& 0x3f).toInt64)
    generalize (ah * bl) + (al * bh) = C at *
    generalize (C <<< ((32 : Int32) &&& 0x3f).toInt64) = D at *
    have hs := c_ladd D (al * bl)
    have hsr := rng64 (D + al * bl)
    generalize D + al * bl = Sm at *
    generalize al * bl = P at *
    rw [h0] at e
    have hcn : 0 ≤ ah.toInt * bl.toInt + al.toInt * bh.toInt ∧ ah.toInt * bl.toInt + al.toInt * bh.toInt ≤ 9223372030412324865 := by omega
    generalize ah.toInt * bl.toInt + al.toInt * bh.toInt = c' at *
    generalize al.toInt * bl.toInt = p' at *
    generalize a.toInt * b.toInt = M at *
    by_cases g1 : C < (2147483648 : Int64)
    · rw [if_pos g1]
      rw [Int64.lt_iff_toInt_lt, k2] at g1
      have hD : D.toInt = C.toInt * 4294967296 := by omega
      by_cases g2 : P < (0 : Int64)
      · rw [if_pos g2, k1]
        rw [Int64.lt_iff_toInt_lt, k0] at g2
        rw [if_neg (by omega)]
      · rw [if_neg g2]
        rw [Int64.lt_iff_toInt_lt, k0] at g2
        have hP : P.toInt = p' := by omega
        by_cases g3 : Sm < (0 : Int64)
        · rw [if_pos g3, k1]
          rw [Int64.lt_iff_toInt_lt, k0] at g3
          rw [if_neg (by omega)]
        · rw [if_neg g3]
          rw [Int64.lt_iff_toInt_lt, k0] at g3
          split <;> omega
    · rw [if_neg g1, k1]
      rw [Int64.lt_iff_toInt_lt, k2] at g1
      rw [if_neg (by omega)]
  by_cases q1 : ah = (0 : Int64)
  · rw [if_pos q1]
    have := hz _ q1
    exact body (by rw [this]; simp) (Or.inl (by rw [this]; simp))
  · rw [if_neg q1]
    by_cases q2 : bh = (0 : Int64)
    · rw [if_pos q2]
      have := hz _ q2
      exact body (by rw [this]; simp) (Or.inr (by rw [this]; simp))
    · rw [if_neg q2, k1]
      have x1 := hnz _ q1
      have x2 := hnz _ q2
      have : 1 ≤ ah.toInt * bh.toInt := Int.mul_pos (by omega) (by omega)
      rw [if_neg (by omega)]
theorem own_nn (x : Int64) (q : Int32) : 0 ≤ (((x &&& (9223372036854775807 : Int64)).toUInt64 >>> (q &&& 0x3f).toInt64.toUInt64).toInt64).toInt := by
  have h1 := c_maskL x 9223372036854775807 63 (by decide) (by decide)
  have h2 : (0 : Int64) ≤ x &&& (9223372036854775807 : Int64) := by rw [Int64.le_iff_toInt_le, show (0 : Int64).toInt = 0 by decide]; omega
  obtain ⟨h3, h4⟩ := sm64 q (q.toBitVec.toNat % 64) rfl
  have h5 : ((q &&& 0x3f).toInt64.toUInt64).toNat = q.toBitVec.toNat % 64 := by
    show ((q &&& 0x3f).toInt64.toBitVec).toNat = _
    rw [h3]
    simp
    omega
  rw [Jvm.Kit.i64_lushr h2 h5 h4]
  apply Int.ediv_nonneg
  · omega
  · exact Int.le_of_lt (Int.pow_pos (by decide))
theorem own_plain (x y : Int64) (s t : Int32) : f0 x y s t = 1 := by
  unfold f0
  rw [if_pos]
  apply Int64.toInt_inj.mp
  rw [own_f2 _ _ (own_nn _ _) (own_nn _ _), own_f1 _ _ (own_nn _ _) (own_nn _ _)]
set_option maxRecDepth 65536 in
set_option maxHeartbeats 40000000 in
theorem comes_1 {Post : Tables → Env → Array Value → State → Outcome → State → Prop} (hpost : ∀ tb e args s v u, (limb_1_1.after args s (.returned v) u = true ∧ limb_1_2.after args s (.returned v) u = true ∧ True) → FrameEnd s (.returned v) u (Jvm.fieldLocs frame_1_writes args s ++ Jvm.arrayLocs frame_1_arrays args s ++ Jvm.staticLocs frame_1_statics s) 0 0 → Post tb e args s (.returned v) u) :
    ArmFor flags0 classFile x code maxLocals ret World_1 tables_1 room_1 Calls_1 rest_1 Pre_1 Post := by
  intro l hfl _ _ p e ha hc hk s m args below hf hA hF happ hP
  obtain ⟨hcalls, hrest, hpre⟩ := hP
  obtain ⟨-, -, -, hnamed, -, -, -, hat⟩ := (Spec.applies_iff hf).mp happ
  obtain ⟨hg, hn⟩ := and_e (Cond.before_iff.mp (show (Jvm.Cond.and given_1 narrow_1).before args s = true from hpre))
  obtain ⟨gc, hg⟩ := and_e hg
  obtain ⟨gi0, hg⟩ := and_e hg
  obtain ⟨gi1, hg⟩ := and_e hg
  obtain ⟨gi2, hg⟩ := and_e hg
  obtain ⟨w0, w1, w2, w3, rfl⟩ : ∃ w0 w1 w2 w3 : Value, args = #[w0, w1, w2, w3] := by
    have hs : args.size = 4 := by simpa [Cond.value, given_1] using gc
    obtain ⟨L⟩ := args
    match L, hs with
    | [w0, w1, w2, w3], _ => exact ⟨w0, w1, w2, w3, rfl⟩
  have hw := fun d (hd : d ∈ tables_1) => atoms_spec (ws := Jvm.Cond.code x code maxLocals ret :: tables_1) hat d (List.mem_cons_of_mem _ hd)
  obtain ⟨i0, ei0⟩ := isL_v gi0
  obtain rfl : w0 = (.long i0) := Option.some.inj ei0
  obtain ⟨i1, ei1⟩ := isL_v gi1
  obtain rfl : w1 = (.long i1) := Option.some.inj ei1
  obtain ⟨i2, ei2⟩ := is_v gi2
  obtain rfl : w2 = (.int i2) := Option.some.inj ei2
  obtain ⟨i3, ei3⟩ := is_v hg
  obtain rfl : w3 = (.int i3) := Option.some.inj ei3
  obtain ⟨n, o, h1, h2, h3, vr, L, rfl, ⟨hvr, N⟩, hq⟩ := rm0 l s _ hw tables_1 i0 i1 i2 i3 s.heap s.heap.size (Nat.le_refl _)  p e ha hc hk s m _ below hf ((Spec.applies_iff_loose hf).mp happ).1 ⟨rfl, State.Warmed39.refl s, rfl⟩ trivial
  have hpl : f0 i0 i1 i2 i3 = 1 := own_plain i0 i1 i2 i3 
  rw [hpl] at hvr
  subst hvr
  refine ⟨n, _, h1, h2, h3, hpost _ _ _ _ _ _ ⟨Cond.after_iff.mpr rfl, Cond.after_iff.mpr (eq_i res_at (Term.int_eval (1)) rfl), trivial⟩ ⟨hq.1, hq.2.1, (hq.2.2.sift fun y hy => Or.inr (N y hy)).mono (by decide) (by decide)⟩⟩
theorem main_1_1 : Claimed_1_1 := comes_1 fun _ _ _ _ _ _ h hF => ⟨h.1, hF⟩
theorem main_1_2 : Claimed_1_2 := comes_1 fun _ _ _ _ _ _ h hF => ⟨h.2.1, hF⟩

end Jvm.Pilot.@@N@@
namespace Jvm.Pilot.@@N@@
open Jvm Jvm.ClassFile Sem Op Lib Jvm.Free Jvm.Stand Jvm.Pilot.@@N@@.Jvm.D
/-! MADE BY PROGRAM (witnessworld.py) out of the Statement's table words and the real class files: 9 classes; the members and pool entries that the words name. The judged class is class 1, her method 2. -/
namespace start1
open Jvm.ClassFile
def u (s : String) : CpInfo := .utf8 (stringToUtf16 s)
/-- a pool by its gaps: so many unusable entries, then the entry; so many at the end -/
def gap : Nat → List CpInfo → List CpInfo
  | 0, r => r
  | n + 1, r => .unusable :: gap n r
def poolList (es : List (Nat × CpInfo)) (last : Nat) : List CpInfo := es.foldr (fun e r => gap e.1 (e.2 :: r)) (gap last [])
def pool (es : List (Nat × CpInfo)) (last : Nat) : Array CpInfo := ⟨poolList es last⟩
def fileOf (pool : Array CpInfo) (this : Nat) (attrs : Array Attribute := #[]) (ms : Array MethodInfo := #[]) (fl : Nat := 33) (sup : Nat := 0) (ifs : Array Nat := #[]) (fds : Array FieldInfo := #[]) : ClassFile where
  minorVersion := 0
  majorVersion := 65
  constantPool := pool
  accessFlags := fl
  thisClass := this
  superClass := sup
  interfaces := ifs
  fields := fds
  methods := ms
  attributes := attrs
def plain (name : String) (sup : Option ClassId) : Class where
  name := name
  kind := .ordinary
  loader := none
  accessFlags := 33
  super := sup
  interfaces := #[]
  cf := none
  fields := #[]
  methods := #[]
  instanceTypes := #[]
  staticTypes := #[]
  resolved := #[]
  callSites := []
  init := .initialized
  statics := none
  mirror := none

def pool0 : Array CpInfo := pool [(5, u "<init>"), (0, u "()V"), (1, .class_ 10), (1, u "java/lang/Object")] 113

def k0m0 : Method := { name := "<init>", desc := "()V", sig := { parameters := [], returnType := none }, accessFlags := 1, code := none }
/-- java/lang/Object -/
def k0 : Class := { plain "java/lang/Object" none with
  accessFlags := 33
  interfaces := #[]
  cf := some (fileOf pool0 8 #[] #[{ accessFlags := 1, nameIndex := 5, descriptorIndex := 6, attributes := #[] }] 33 0 #[] #[])
  fields := #[]
  methods := #[k0m0]
  instanceTypes := #[]
  staticTypes := #[]
  resolved := Array.replicate 124 none
  statics := none }

def pool1 : Array CpInfo := pool [(2, .class_ 4), (1, u "java/lang/Object"), (0, u "<init>"), (0, u "()V"), (2, .long 9223372036854775807), (1, .long 4294967295), (1, .long 2147483648), (1, .methodref 16 17), (0, .class_ 18), (0, .nameAndType 19 20), (0, u "com/example/boundsmith/boundsmith/internal/CountTimesPinLaw"), (0, u "saturatedProduct"), (0, u "(JJ)J"), (0, .methodref 22 23), (0, .class_ 24), (0, .nameAndType 25 20), (0, u "com/example/boundsmith/boundsmith/internal/Count"), (0, u "times"), (3, u "law"), (0, u "(JJII)Z")] 2

def k1m0 : Method := { name := "<init>", desc := "()V", sig := { parameters := [], returnType := none }, accessFlags := 2, code := none }
def k1c1 : Code := { maxStack := 6, maxLocals := 20, code := method_2_code, exceptionTable := #[], attributes := #[] }
def k1m1 : Method := { name := "saturatedProduct", desc := "(JJ)J", sig := { parameters := [.long, .long], returnType := some .long }, accessFlags := 10, code := some k1c1 }
def k1c2 : Code := { maxStack := 4, maxLocals := 12, code := code, exceptionTable := #[], attributes := #[] }
def k1m2 : Method := { name := "law", desc := "(JJII)Z", sig := { parameters := [.long, .long, .int, .int], returnType := some .boolean }, accessFlags := 9, code := some k1c2 }
/-- com/example/boundsmith/boundsmith/internal/CountTimesPinLaw -/
def k1 : Class := { plain "com/example/boundsmith/boundsmith/internal/CountTimesPinLaw" (some 0) with
  accessFlags := 49
  interfaces := #[]
  cf := some (fileOf pool1 16 #[] #[{ accessFlags := 2, nameIndex := 5, descriptorIndex := 6, attributes := #[] }, { accessFlags := 10, nameIndex := 19, descriptorIndex := 20, attributes := #[] }, { accessFlags := 9, nameIndex := 29, descriptorIndex := 30, attributes := #[] }] 49 2 #[] #[])
  fields := #[]
  methods := #[k1m0, k1m1, k1m2]
  instanceTypes := #[]
  staticTypes := #[]
  resolved := Array.replicate 33 none
  statics := none }

def pool2 : Array CpInfo := pool [(4, .class_ 6), (1, u "java/lang/Object"), (0, u "<init>"), (0, u "()V"), (0, .class_ 10), (0, u "com/example/boundsmith/boundsmith/internal/Count"), (0, .long 9223372036854775807), (3, u "times"), (0, u "(JJ)J"), (30, u "MANY"), (0, u "J")] 9

def k2m0 : Method := { name := "<init>", desc := "()V", sig := { parameters := [], returnType := none }, accessFlags := 2, code := none }
def k2c1 : Code := { maxStack := 6, maxLocals := 4, code := prog_31_method_3_code, exceptionTable := #[], attributes := #[] }
def k2m1 : Method := { name := "times", desc := "(JJ)J", sig := { parameters := [.long, .long], returnType := some .long }, accessFlags := 8, code := some k2c1 }
/-- com/example/boundsmith/boundsmith/internal/Count -/
def k2 : Class := { plain "com/example/boundsmith/boundsmith/internal/Count" (some 0) with
  accessFlags := 48
  interfaces := #[]
  cf := some (fileOf pool2 9 #[] #[{ accessFlags := 2, nameIndex := 7, descriptorIndex := 8, attributes := #[] }, { accessFlags := 8, nameIndex := 15, descriptorIndex := 16, attributes := #[] }] 48 4 #[] #[{ accessFlags := 24, nameIndex := 47, descriptorIndex := 48, attributes := #[] }])
  fields := #[{ name := "MANY", type := .long, accessFlags := 24, slot := 0, constantValue := 0 }]
  methods := #[k2m0, k2m1]
  instanceTypes := #[]
  staticTypes := #[.long]
  resolved := Array.replicate 58 none
  statics := none }

def pool3 : Array CpInfo := pool [(1, u "java/lang/Cloneable"), (0, .class_ 1), (0, u "java/lang/Object"), (0, .class_ 3)] 3

/-- java/lang/Cloneable -/
def k3 : Class := { plain "java/lang/Cloneable" (some 0) with
  accessFlags := 1537
  interfaces := #[]
  cf := some (fileOf pool3 2 #[] #[] 1537 4 #[] #[])
  fields := #[]
  methods := #[]
  instanceTypes := #[]
  staticTypes := #[]
  resolved := Array.replicate 8 none
  statics := none }

def pool4 : Array CpInfo := pool [(1, u "java/io/Serializable"), (0, .class_ 1), (0, u "java/lang/Object"), (0, .class_ 3)] 3

/-- java/io/Serializable -/
def k4 : Class := { plain "java/io/Serializable" (some 0) with
  accessFlags := 1537
  interfaces := #[]
  cf := some (fileOf pool4 2 #[] #[] 1537 4 #[] #[])
  fields := #[]
  methods := #[]
  instanceTypes := #[]
  staticTypes := #[]
  resolved := Array.replicate 8 none
  statics := none }

/-- the primitive byte -/
def k5 : Class := { plain "byte" none with kind := .primitive 'B', accessFlags := 0x411 }
/-- [B -/
def k6 : Class := { plain "[B" (some 0) with kind := .array 5 .byte, interfaces := #[3, 4], accessFlags := 1041 }

/-- the primitive int -/
def k7 : Class := { plain "int" none with kind := .primitive 'I', accessFlags := 0x411 }
/-- [I -/
def k8 : Class := { plain "[I" (some 0) with kind := .array 7 .int, interfaces := #[3, 4], accessFlags := 1041 }

def heap : Heap := #[]
def classes : Array Class := #[k0, k1, k2, k3, k4, k5, k6, k7, k8]
def interned : List (Array UInt16 × Addr) := []
def slotsUsed : Nat := 0
def theMethod : MethodId := ⟨1, 2⟩
def args0 : Array Value := #[.long 5, .long 7, .int 1, .int 2]
def aboutOver (below : List Frame) : State where
  vm := { classes := classes, interned := interned.toArray }
  heap := heap
  slotsUsed := slotsUsed
  threads := #[{ frames := .invoking theMethod args0 :: below }]
def below0 : List Frame := [.native { method := ⟨0, 0⟩, args := #[] }]
def about1 : State := aboutOver below0
def p0 : Program := .bare "" "" ""
def e0 : Env := launch0.env 0 0 0
theorem w_frames : about1.frames = Frame.invoking theMethod args0 :: below0 := rfl
set_option maxRecDepth 65536 in
theorem w_args : argsFit about1.vm theMethod args0 = true := by decide +kernel
set_option maxRecDepth 65536 in
theorem w_heap : heapFits about1 = true := by decide +kernel
set_option maxRecDepth 65536 in
theorem w_runnable : about1.curStatus? = some .runnable := by decide +kernel
set_option maxRecDepth 65536 in
theorem w_alone : about1.alone = true := by decide +kernel
set_option maxRecDepth 65536 in
theorem w_named : about1.methodNamed? x = some theMethod := by decide +kernel
set_option maxRecDepth 65536 in
theorem w_hears : about1.hears theMethod below0 = true := by decide +kernel
set_option maxRecDepth 65536 in
theorem w_ripe : about1.ripe theMethod args0 below0 = true := by decide +kernel
theorem w_running : about1.status = .running := rfl
set_option maxRecDepth 65536 in
theorem w_room : about1.hasRoom e0.platform room_1 = true :=
  launch0.hasRoom_least _ room_1 (by decide +kernel) (by decide +kernel) (by decide +kernel) (by decide +kernel) (by decide +kernel) (by decide +kernel)
theorem allAtoms_all (ts : List Jvm.Cond) (a : Array Jvm.Value) (st : Jvm.State) : (allAtoms ts).before a st = ts.all (fun c => c.before a st) := by
  induction ts with
  | nil => rfl
  | cons c t ih =>
    show (Jvm.Cond.and c (allAtoms t)).before a st = _
    rw [Jvm.Cond.before_and, ih, List.all_cons]
def words1 : List Jvm.Cond := Jvm.Cond.code x code maxLocals ret :: tables_1
/-- a 'code' word, met by the world's own term for the bytes: nothing is compared byte by byte -/
theorem code_word {y : MethodName} {bytes : ByteArray} {mx : Nat} {rt : Option FieldType} {a : Array Value} {s : State} {m : MethodId} {meth : Method} {c : Code} (h1 : s.methodNamed? y = some m) (h2 : s.vm.method? m = some meth) (h3 : meth.code = some c) (h4 : c.code = bytes)
    (h5 : (c.maxLocals == mx && c.exceptionTable.isEmpty && decide (c.maxStack ≤ mostOperands) && decide (meth.sig.returnType = rt) && !meth.locks && decide (parseMethodDescriptor y.desc = some meth.sig)) = true) : (Jvm.Cond.code y bytes mx rt).before a s = true := by
  simp only [Bool.and_eq_true, beq_iff_eq, Bool.not_eq_true', decide_eq_true_eq] at h5
  obtain ⟨⟨⟨⟨⟨g1, g2⟩, g3⟩, g4⟩, g5⟩, g6⟩ := h5
  simp [Cond.before, Cond.holds, Cond.value, h1, h2, h3, h4, g1, g2, g3, g4, g5, g6]
def isCode : Jvm.Cond → Bool
  | .code _ _ _ _ => true
  | _ => false
theorem all_split {L : List Jvm.Cond} {P : Jvm.Cond → Bool} (h1 : L.all (fun c => isCode c || P c) = true) (h2 : ∀ c ∈ L.filter isCode, P c = true) : L.all P = true := by
  refine List.all_eq_true.mpr fun c hc => ?_
  have h := List.all_eq_true.mp h1 c hc
  rcases Bool.eq_false_or_eq_true (isCode c) with hi | hi
  · exact h2 c (List.mem_filter.mpr ⟨hc, hi⟩)
  · simpa [hi] using h
set_option maxRecDepth 65536 in
theorem w_c0 : (Jvm.Cond.code x code maxLocals ret).before args0 about1 = true := code_word (m := ⟨1, 2⟩) (meth := k1m2) (c := k1c2) (by decide +kernel) rfl rfl rfl (by decide +kernel)
set_option maxRecDepth 65536 in
theorem w_c1 : (Jvm.Cond.code ({ cls := "com/example/boundsmith/boundsmith/internal/CountTimesPinLaw", name := "saturatedProduct", desc := "(JJ)J" } : Jvm.MethodName) method_2_code (20 : Nat) (Option.some Jvm.ClassFile.FieldType.long)).before args0 about1 = true := code_word (m := ⟨1, 1⟩) (meth := k1m1) (c := k1c1) (by decide +kernel) rfl rfl rfl (by decide +kernel)
set_option maxRecDepth 65536 in
theorem w_c2 : (Jvm.Cond.code ({ cls := "com/example/boundsmith/boundsmith/internal/Count", name := "times", desc := "(JJ)J" } : Jvm.MethodName) prog_31_method_3_code (4 : Nat) (Option.some Jvm.ClassFile.FieldType.long)).before args0 about1 = true := code_word (m := ⟨2, 1⟩) (meth := k2m1) (c := k2c1) (by decide +kernel) rfl rfl rfl (by decide +kernel)
def codes1 : List Jvm.Cond := [Jvm.Cond.code x code maxLocals ret, Jvm.Cond.code ({ cls := "com/example/boundsmith/boundsmith/internal/CountTimesPinLaw", name := "saturatedProduct", desc := "(JJ)J" } : Jvm.MethodName) method_2_code (20 : Nat) (Option.some Jvm.ClassFile.FieldType.long), Jvm.Cond.code ({ cls := "com/example/boundsmith/boundsmith/internal/Count", name := "times", desc := "(JJ)J" } : Jvm.MethodName) prog_31_method_3_code (4 : Nat) (Option.some Jvm.ClassFile.FieldType.long)]
set_option maxRecDepth 65536 in
theorem codes_eq : words1.filter isCode = codes1 := rfl
theorem w_codes : ∀ c ∈ words1.filter isCode, c.before args0 about1 = true := by
  rw [codes_eq]
  intro c hc
  simp only [codes1, List.mem_cons, List.not_mem_nil, or_false] at hc
  rcases hc with rfl | rfl | rfl
  · exact w_c0
  · exact w_c1
  · exact w_c2
set_option maxRecDepth 65536 in
theorem w_t1 : words1.all (fun c => isCode c || c.before args0 about1) = true := by decide +kernel
theorem w_tables : (allAtoms (Jvm.Cond.code x code maxLocals ret :: tables_1)).before args0 about1 = true := by
  rw [allAtoms_all]
  show words1.all (fun c => c.before args0 about1) = true
  refine all_split ?_ w_codes
  rw [w_t1]
set_option maxRecDepth 65536 in
theorem w_case : (Jvm.Cond.and given_1 narrow_1).before args0 about1 = true := by decide +kernel
theorem w_applies : (headSpec (Jvm.Cond.code x code maxLocals ret :: tables_1) room_1).applies x e0.platform about1 = true :=
  (Spec.applies_iff w_frames).mpr ⟨w_running, w_runnable, w_alone, w_named, w_hears, w_ripe, w_room, w_tables⟩
theorem atStart : AtStart classFile x code maxLocals ret World_1 tables_1 room_1 Calls_1 rest_1 Pre_1 launch0 p0 e0 about1 theMethod args0 below0 :=
  ⟨lists_1, trivial, launch0.admits_env _ _ _, launch0.least_env, fairChoices_fair.cas, fairChoices_fair.clock, w_frames, w_args, w_heap, w_applies, trivial, trivial, w_case⟩
end start1
theorem witness_1 : WitnessClaimed_1 := ⟨start1.p0, start1.e0, start1.about1, start1.theMethod, start1.args0, start1.below0, start1.atStart⟩
end Jvm.Pilot.@@N@@
