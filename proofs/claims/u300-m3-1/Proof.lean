import JvmDerived
import JvmDerived.Pilot.@@N@@Statement
import JvmDerived.Pilot.@@N@@Code
set_option linter.unusedVariables false
set_option linter.unusedSimpArgs false
@@BLOCK:NumsL.lean.txt@@
namespace Jvm.RoadKit
open Sem ClassFile Op Lib Jvm.Stand Jvm.Free Jvm.LawKit
section New
variable {p : Program} {l : Launch} {e : Env} {R : Room} {s : State} {m : MethodId} {args : Array Value} {below : List Frame} {meth : Method} {c : Code} {T : State} {locs : List Loc} {cells slots : Nat}
theorem retI (X : Stand p l e R s m args below meth c T locs cells slots) (hx : p.tables.exec = Jvm.exec) {pc : Nat} {Ls : Array Slot} {z : Int32} {rest : List Value} (hret : meth.sig.returnType = some .int) (hd : decode c.code pc = .ok (.ireturn, 1)) {fs : List Frame}
    (hl : ∀ (f : JFrame) (acts : List Action), f.method = m → f.locked = none → f.entered = [] → (doReturn e (T.setTop f) acts (some (.int z))).1 = T.setFrames fs) : Steps p.tables e below (T.setTop (mkF m pc Ls (.int z :: rest))) (T.setFrames fs) := by
  have hm' : T.vm.method? m = some meth := X.method'
  have hn : narrow .int (.int z) = .int z := rfl
  show Steps p.tables e below (T.setTop { method := m, pc := pc, locals := Ls, stack := _ :: rest, locked := none }) _
  jvm_step X.here [X.here.top, hx, hd, hm', hret, hn]
  first | (intro acts; rw [hl _ acts rfl rfl rfl]) | rw [hl _ _ rfl rfl rfl]
  exact Steps.refl _
end New
end Jvm.RoadKit
namespace Jvm.Pilot.@@N@@
open Jvm Jvm.ClassFile Sem Op Lib Jvm.Free Jvm.Stand Jvm.LawKit Jvm.RoadKit Bundle Jvm.Pilot.@@N@@.Jvm.D
theorem own_nz_J {x : Int64} (h : (0 : Int64) < x) : ¬ (x = (0 : Int64)) := by rintro rfl; exact absurd h (by decide)
theorem own_nz_I {x : Int32} (h : (0 : Int32) < x) : ¬ (x = (0 : Int32)) := by rintro rfl; exact absurd h (by decide)
theorem own_fld {s : State} {args : Array Value} {tt : Term} {a : Addr} {C n d : String} {k : Int32} (ev : tt.eval args s none [] s = some (.ref a)) (h : (Jvm.Cond.eq (.field tt C n d) (.int k)).value args s none s [] = some true) : Fld s s.heap a C n d (.int k) := by
  obtain ⟨u, v, hu, hv, k1, k2⟩ := cmp_v (Or.inl h)
  have hv' : v = .int k := (Option.some.inj (hv.symm.trans (Term.int_eval k)))
  subst hv'
  obtain ⟨z, rfl⟩ := k2
  have hz := gotT (Cond.eq_ints hu hv) h
  subst hz
  exact Fld.start (by rw [← fld_at ev]; exact hu)
def own_at (vs : List Int32) (j : Int32) : Int32 := vs.getD j.toNatClampNeg 0
def own_atL (vs : List Int64) (j : Int32) : Int64 := vs.getD j.toNatClampNeg 0
theorem own_getD (vs : List Int32) (j : Int32) : (vs.map Value.int).getD j.toNatClampNeg (.int (0 : Int32)) = .int (own_at vs j) := by
  unfold own_at
  generalize j.toNatClampNeg = k
  induction vs generalizing k with
  | nil => rfl
  | cons a t ih => cases k with
    | zero => rfl
    | succ k => simpa using ih k
theorem own_getDL (vs : List Int64) (j : Int32) : (vs.map Value.long).getD j.toNatClampNeg (.long (0 : Int64)) = .long (own_atL vs j) := by
  unfold own_atL
  generalize j.toNatClampNeg = k
  induction vs generalizing k with
  | nil => rfl
  | cons a t ih => cases k with
    | zero => rfl
    | succ k => simpa using ih k
theorem own_rem (x y : Int32) : x - (x / y) * y = x % y := by
  apply Int32.toInt_inj.mp
  by_cases h : x = Int32.minValue ∧ y = -1
  · obtain ⟨rfl, rfl⟩ := h; decide
  · have hd : (x / y).toInt = x.toInt.tdiv y.toInt := Jvm.Kit.i32_div (fun q => h ⟨Int32.toInt_inj.mp q.1, Int32.toInt_inj.mp q.2⟩)
    have h1 := c_imul (x / y) y
    have h2 := c_isub x ((x / y) * y)
    have h3 := Int.tmod_add_tdiv_mul x.toInt y.toInt
    have h4 := rng32 (x - (x / y) * y)
    have h5 := rng32 (x % y)
    rw [hd] at h1
    rw [Int32.toInt_mod] at h5 ⊢
    omega
def own_end (e : Int32) : Int32 := (1 : Int32) + ((e &&& (2147483647 : Int32)) - ((e &&& (2147483647 : Int32)) / (3 : Int32)) * (3 : Int32))
def own_idx (i e : Int32) : Int32 := (i &&& (2147483647 : Int32)) - ((i &&& (2147483647 : Int32)) / own_end e) * own_end e
theorem own_endr (e : Int32) : 1 ≤ (own_end e).toInt ∧ (own_end e).toInt ≤ 3 := by
  have h1 := c_mask e 2147483647 31 (by decide) (by decide)
  have h2 := (c_irem (e &&& 2147483647) 3 3 rfl).1 (by omega)
  have h3 := c_iadd 1 ((e &&& 2147483647) % 3)
  have h4 := rng32 (1 + (e &&& 2147483647) % 3)
  have h5 : (1 : Int32).toInt = 1 := rfl
  have h6 : own_end e = 1 + (e &&& 2147483647) % 3 := by unfold own_end; rw [own_rem]
  rw [h6]
  omega
theorem own_idxr (i e : Int32) : 0 ≤ (own_idx i e).toInt ∧ (own_idx i e).toInt < (own_end e).toInt := by
  have h0 := own_endr e
  have h1 := c_mask i 2147483647 31 (by decide) (by decide)
  have h2 := (c_iremV (i &&& 2147483647) (own_end e)).1 (by omega) (by omega)
  unfold own_idx
  rw [own_rem]
  omega
theorem own_e0 (e : Int32) : ¬ (own_end e = (0 : Int32)) := fun q => by have := own_endr e; rw [q] at this; exact absurd this.1 (by decide)
theorem own_in53 (i e : Int32) : ¬ (own_idx i e < (0 : Int32)) ∧ own_idx i e < (3 : Int32) := by
  have h0 := own_endr e
  have h1 := own_idxr i e
  simp only [Int32.lt_iff_toInt_lt, show (0 : Int32).toInt = 0 from rfl, show (3 : Int32).toInt = 3 from rfl]
  omega
theorem own_nx (i e : Int32) : (own_idx i e + (1 : Int32)).toInt = (own_idx i e).toInt + 1 := by
  have h0 := own_endr e
  have h1 := own_idxr i e
  have h2 := c_iadd (own_idx i e) 1
  have h3 := rng32 (own_idx i e + 1)
  have h5 : (1 : Int32).toInt = 1 := rfl
  omega
theorem own_in103 (i e : Int32) (h : own_idx i e + (1 : Int32) < own_end e) : ¬ (own_idx i e + (1 : Int32) < (0 : Int32)) ∧ own_idx i e + (1 : Int32) < (3 : Int32) := by
  have h0 := own_endr e
  have h1 := own_idxr i e
  have h2 := own_nx i e
  simp only [Int32.lt_iff_toInt_lt, show (0 : Int32).toInt = 0 from rfl, show (3 : Int32).toInt = 3 from rfl] at h ⊢
  omega
theorem own_lt_of_ne (i e : Int32) (h : ¬ own_idx i e + (1 : Int32) = own_end e) : own_idx i e + (1 : Int32) < own_end e := by
  have h1 := own_idxr i e
  have h2 := own_nx i e
  rw [← Int32.toInt_inj] at h
  rw [Int32.lt_iff_toInt_lt]
  omega
theorem own_in122 (i e : Int32) (h : ¬ own_idx i e + (1 : Int32) = own_end e) : ¬ (own_idx i e + (1 : Int32) < (0 : Int32)) ∧ own_idx i e + (1 : Int32) < (3 : Int32) := own_in103 i e (own_lt_of_ne i e h)
theorem d1_0 : decode method_2_code 0 = .ok (.iload_n 0, 1) := by decide +kernel
theorem d1_1 : decode method_2_code 1 = .ok (.iconst 3, 1) := by decide +kernel
theorem d1_2 : decode method_2_code 2 = .ok (.iand, 1) := by decide +kernel
theorem d1_3 : decode method_2_code 3 = .ok (.istore_n 1, 1) := by decide +kernel
theorem d1_4 : decode method_2_code 4 = .ok (.iload_n 1, 1) := by decide +kernel
theorem d1_5 : decode method_2_code 5 = .ok (.ifCond .ne 6, 3) := by decide +kernel
theorem d1_8 : decode method_2_code 8 = .ok (.bipush 10, 2) := by decide +kernel
theorem d1_10 : decode method_2_code 10 = .ok (.ireturn, 1) := by decide +kernel
theorem d1_11 : decode method_2_code 11 = .ok (.iload_n 1, 1) := by decide +kernel
theorem d1_12 : decode method_2_code 12 = .ok (.iconst 1, 1) := by decide +kernel
theorem d1_13 : decode method_2_code 13 = .ok (.if_icmp .ne 6, 3) := by decide +kernel
theorem d1_16 : decode method_2_code 16 = .ok (.bipush 13, 2) := by decide +kernel
theorem d1_18 : decode method_2_code 18 = .ok (.ireturn, 1) := by decide +kernel
theorem d1_19 : decode method_2_code 19 = .ok (.iload_n 0, 1) := by decide +kernel
theorem d1_20 : decode method_2_code 20 = .ok (.iconst 2, 1) := by decide +kernel
theorem d1_21 : decode method_2_code 21 = .ok (.iushr, 1) := by decide +kernel
theorem d1_22 : decode method_2_code 22 = .ok (.ldc 7, 2) := by decide +kernel
theorem d1_24 : decode method_2_code 24 = .ok (.iand, 1) := by decide +kernel
theorem d1_25 : decode method_2_code 25 = .ok (.i2c, 1) := by decide +kernel
theorem d1_26 : decode method_2_code 26 = .ok (.ireturn, 1) := by decide +kernel
theorem pn_1 : plainName "com/example/neat_contract/neatcontract/document/PositionEndsLinePinLaw" = true := by first | (simp [plainName, overriddenIn]; done) | decide +kernel
theorem ef_1 (m : MethodId) (x0 : Int32) : entryFrame m #[(.int x0)] 2 = mkF m 0 #[.val (.int x0), .unset] [] := by first | (simp [entryFrame, mkF, argsToLocals, Value.category]; done) | rfl
def f1 (p1 : Int32) : Int32 := (if (p1 &&& (3 : Int32)) = (0 : Int32) then (10 : Int32) else (if (p1 &&& (3 : Int32)) = (1 : Int32) then (13 : Int32) else (nar .char ((((p1.toUInt32 >>> ((2 : Int32) &&& 31).toUInt32).toInt32) &&& (65535 : Int32)).toUInt32.toUInt16.toUInt32.toInt32))))
def Q1 (Z : State) (p1 : Int32) (h0 : Heap) (n0 : Nat) (v : Option Value) (h : Heap) (L : List Loc) : Prop := v = some (.int (f1 p1)) ∧ Fr n0 L ∧ h = h0
set_option maxRecDepth 65536 in
set_option maxHeartbeats 40000000 in
theorem rm1 (l : Launch) (Z : State) (a0 : Array Value) (hw : ∀ d ∈ tables_1, d.before a0 Z = true) (ws : List Jvm.Cond) (p1 : Int32) (h0 : Heap) (n0 : Nat) (Z0 : n0 ≤ h0.size) :
    MetFree l (⟨"com/example/neat_contract/neatcontract/document/PositionEndsLinePinLaw", "drawn", "(I)C"⟩ : MethodName) (head1 (Jvm.Cond.code (⟨"com/example/neat_contract/neatcontract/document/PositionEndsLinePinLaw", "drawn", "(I)C"⟩ : MethodName) method_2_code 2 (some .char) :: ws) ({ frames := 0, cells := 0, slots := 0, locals := 0 } : Room)) (fun a U => a = #[(.int p1)] ∧ Z.Warmed39 U.vm ∧ U.heap = h0) (fun _ _ _ _ _ => True) (fun _ U o U' => ∃ v L, o = .returned v ∧ Q1 Z p1 h0 n0 v U'.heap L ∧ FrameEnd U o U' L ({ frames := 0, cells := 0, slots := 0, locals := 0 } : Room).cells ({ frames := 0, cells := 0, slots := 0, locals := 0 } : Room).slots) := by
  refine MetFree.of_bodySF (plainFor_of_name pn_1) hisR ?_
  intro p e s m args below meth c s₁ Bd hml0 hP hK
  obtain ⟨rfl, hZ, hh⟩ := hP
  have hx := Bd.exec
  have hby := Bd.bytes
  have hml : c.maxLocals = 2 := hml0
  have hown : s.vm.findClass "com/example/neat_contract/neatcontract/document/PositionEndsLinePinLaw" = some m.cls := findClass_of_methodNamed Bd.named
  have hnm := (name_of_methodNamed Bd.named Bd.method).1
  have X0 : Stand p l e ({ frames := 0, cells := 0, slots := 0, locals := 0 } : Room) s m #[(.int p1)] below meth c s₁ [] 0 0 := Stand.of_body Bd
  have e0 : s₁.heap = h0 := by rw [← hh, Bd.state]; rfl
  have N0 := Fr.nil n0
  have pre0 : ∀ t, Steps p.tables e below (s₁.setTop (mkF m 0 #[.val (.int p1), .unset] [])) t → Steps p.tables e below (s₁.setTop (entryFrame m #[(.int p1)] 2)) t := fun t k => castTop (ef_1 m p1) k
  have pre2 : ∀ t, Steps p.tables e below (s₁.setTop (mkF m 5 #[.val (.int p1), .val (.int (p1 &&& (3 : Int32)))] [(.int (p1 &&& (3 : Int32)))])) t → Steps p.tables e below (s₁.setTop (entryFrame m #[(.int p1)] 2)) t := fun t kt => by
    refine pre0 _ ?_
    show Steps p.tables e below (s₁.setTop (mkF m 0 #[.val (.int p1), .unset] [])) _
    refine XS.iloadN X0.here hx rfl (hb hby d1_0) rfl ?_
    show Steps p.tables e below (s₁.setTop (mkF m 1 _ [(.int p1)])) _
    refine XS.iconst X0.here hx rfl (hb hby d1_1) ?_
    show Steps p.tables e below (s₁.setTop (mkF m 2 _ [(.int (3 : Int32)), (.int p1)])) _
    refine XS.iand X0.here hx rfl (hb hby d1_2) rfl ?_
    show Steps p.tables e below (s₁.setTop (mkF m 3 _ [(.int (p1 &&& (3 : Int32)))])) _
    refine XS.istoreN X0.here hx rfl (hb hby d1_3) rfl (l' := #[.val (.int p1), .val (.int (p1 &&& (3 : Int32)))]) rfl ?_
    show Steps p.tables e below (s₁.setTop (mkF m 4 _ [])) _
    refine XS.iloadN X0.here hx rfl (hb hby d1_4) rfl ?_
    exact kt
  by_cases hc3 : (p1 &&& (3 : Int32)) = (0 : Int32)
  · skip
    obtain ⟨fs, hr, hrun, hended, hW, hsame⟩ := X0.leave (v := some (.int (10 : Int32))) (fun h => by rw [Bd.returns] at h; cases h) (by first | exact BodyLoose.notSynchronized Bd | exact Body.notSynchronized Bd)
    refine ⟨_, _, pre2 _ ?_, hrun, hended, _, _, rfl, ?_, ⟨_, rfl⟩, hW, hsame.mono (by decide) (by decide)⟩
    · show Steps p.tables e below (s₁.setTop (mkF m 5 #[.val (.int p1), .val (.int (p1 &&& (3 : Int32)))] [(.int (p1 &&& (3 : Int32)))])) _
      refine XS.ifNo X0.here hx rfl (hb hby d1_5) rfl ((if0 _ _).trans (teq hc3).2) ?_
      show Steps p.tables e below (s₁.setTop (mkF m 8 _ [])) _
      refine XS.bipush X0.here hx rfl (hb hby d1_8) ?_
      show Steps p.tables e below (s₁.setTop (mkF m 10 #[.val (.int p1), .val (.int (p1 &&& (3 : Int32)))] [(.int (10 : Int32))])) _
      exact retN X0 hx (t := .char) Bd.returns (by simp) (hb hby d1_10) hr
    · show Q1 Z p1 h0 n0 _ s₁.heap _
      rw [e0]
      exact ⟨congrArg (fun z => some (Value.int z)) (by rw [f1, if_pos hc3] : f1 p1 = (10 : Int32)).symm, N0, rfl⟩
  · skip
    have pre4 : ∀ t, Steps p.tables e below (s₁.setTop (mkF m 13 #[.val (.int p1), .val (.int (p1 &&& (3 : Int32)))] [(.int (1 : Int32)), (.int (p1 &&& (3 : Int32)))])) t → Steps p.tables e below (s₁.setTop (entryFrame m #[(.int p1)] 2)) t := fun t kt => by
      refine pre2 _ ?_
      show Steps p.tables e below (s₁.setTop (mkF m 5 #[.val (.int p1), .val (.int (p1 &&& (3 : Int32)))] [(.int (p1 &&& (3 : Int32)))])) _
      refine XS.ifYes X0.here hx rfl (pc0 := 5) (pc' := 11) rfl (hb hby d1_5) rfl ((if0 _ _).trans (feq hc3).2) (by decide) (by decide) ?_
      show Steps p.tables e below (s₁.setTop (mkF m 11 _ [])) _
      refine XS.iloadN X0.here hx rfl (hb hby d1_11) rfl ?_
      show Steps p.tables e below (s₁.setTop (mkF m 12 _ [(.int (p1 &&& (3 : Int32)))])) _
      refine XS.iconst X0.here hx rfl (hb hby d1_12) ?_
      exact kt
    by_cases hc5 : (p1 &&& (3 : Int32)) = (1 : Int32)
    · skip
      obtain ⟨fs, hr, hrun, hended, hW, hsame⟩ := X0.leave (v := some (.int (13 : Int32))) (fun h => by rw [Bd.returns] at h; cases h) (by first | exact BodyLoose.notSynchronized Bd | exact Body.notSynchronized Bd)
      refine ⟨_, _, pre4 _ ?_, hrun, hended, _, _, rfl, ?_, ⟨_, rfl⟩, hW, hsame.mono (by decide) (by decide)⟩
      · show Steps p.tables e below (s₁.setTop (mkF m 13 #[.val (.int p1), .val (.int (p1 &&& (3 : Int32)))] [(.int (1 : Int32)), (.int (p1 &&& (3 : Int32)))])) _
        refine XS.icmpNo X0.here hx rfl (hb hby d1_13) rfl (teq hc5).2 ?_
        show Steps p.tables e below (s₁.setTop (mkF m 16 _ [])) _
        refine XS.bipush X0.here hx rfl (hb hby d1_16) ?_
        show Steps p.tables e below (s₁.setTop (mkF m 18 #[.val (.int p1), .val (.int (p1 &&& (3 : Int32)))] [(.int (13 : Int32))])) _
        exact retN X0 hx (t := .char) Bd.returns (by simp) (hb hby d1_18) hr
      · show Q1 Z p1 h0 n0 _ s₁.heap _
        rw [e0]
        exact ⟨congrArg (fun z => some (Value.int z)) (by rw [f1, if_neg hc3, if_pos hc5] : f1 p1 = (13 : Int32)).symm, N0, rfl⟩
    · skip
      obtain ⟨fs, hr, hrun, hended, hW, hsame⟩ := X0.leave (v := some (.int (nar .char ((((p1.toUInt32 >>> ((2 : Int32) &&& 31).toUInt32).toInt32) &&& (65535 : Int32)).toUInt32.toUInt16.toUInt32.toInt32)))) (fun h => by rw [Bd.returns] at h; cases h) (by first | exact BodyLoose.notSynchronized Bd | exact Body.notSynchronized Bd)
      refine ⟨_, _, pre4 _ ?_, hrun, hended, _, _, rfl, ?_, ⟨_, rfl⟩, hW, hsame.mono (by decide) (by decide)⟩
      · show Steps p.tables e below (s₁.setTop (mkF m 13 #[.val (.int p1), .val (.int (p1 &&& (3 : Int32)))] [(.int (1 : Int32)), (.int (p1 &&& (3 : Int32)))])) _
        refine XS.icmpYes X0.here hx rfl (pc0 := 13) (pc' := 19) rfl (hb hby d1_13) rfl (feq hc5).2 (by decide) (by decide) ?_
        show Steps p.tables e below (s₁.setTop (mkF m 19 _ [])) _
        refine XS.iloadN X0.here hx rfl (hb hby d1_19) rfl ?_
        show Steps p.tables e below (s₁.setTop (mkF m 20 _ [(.int p1)])) _
        refine XS.iconst X0.here hx rfl (hb hby d1_20) ?_
        show Steps p.tables e below (s₁.setTop (mkF m 21 _ [(.int (2 : Int32)), (.int p1)])) _
        refine XS.iushr X0.here hx rfl (hb hby d1_21) rfl ?_
        show Steps p.tables e below (s₁.setTop (mkF m 22 _ [(.int ((p1.toUInt32 >>> ((2 : Int32) &&& 31).toUInt32).toInt32))])) _
        refine X0.ldcInt hx hown (mvT hZ (hw _ (List.mem_of_getElem? (i := 5) rfl))) (g := (mkF m 22 #[.val (.int p1), .val (.int (p1 &&& (3 : Int32)))] [(.int ((p1.toUInt32 >>> ((2 : Int32) &&& 31).toUInt32).toInt32))])) rfl (hb hby d1_22) _ ?_
        show Steps p.tables e below (s₁.setTop (mkF m 24 _ [(.int (65535 : Int32)), (.int ((p1.toUInt32 >>> ((2 : Int32) &&& 31).toUInt32).toInt32))])) _
        refine XS.iand X0.here hx rfl (hb hby d1_24) rfl ?_
        show Steps p.tables e below (s₁.setTop (mkF m 25 _ [(.int (((p1.toUInt32 >>> ((2 : Int32) &&& 31).toUInt32).toInt32) &&& (65535 : Int32)))])) _
        refine XS.i2c X0.here hx rfl (hb hby d1_25) rfl ?_
        show Steps p.tables e below (s₁.setTop (mkF m 26 #[.val (.int p1), .val (.int (p1 &&& (3 : Int32)))] [(.int ((((p1.toUInt32 >>> ((2 : Int32) &&& 31).toUInt32).toInt32) &&& (65535 : Int32)).toUInt32.toUInt16.toUInt32.toInt32))])) _
        exact retN X0 hx (t := .char) Bd.returns (by simp) (hb hby d1_26) hr
      · show Q1 Z p1 h0 n0 _ s₁.heap _
        rw [e0]
        exact ⟨congrArg (fun z => some (Value.int z)) (by rw [f1, if_neg hc3, if_neg hc5] : f1 p1 = (nar .char ((((p1.toUInt32 >>> ((2 : Int32) &&& 31).toUInt32).toInt32) &&& (65535 : Int32)).toUInt32.toUInt16.toUInt32.toInt32))).symm, N0, rfl⟩
theorem d2_0 : decode prog_47_method_9_code 0 = .ok (.aload_n 0, 1) := by decide +kernel
theorem d2_1 : decode prog_47_method_9_code 1 = .ok (.iload_n 1, 1) := by decide +kernel
theorem d2_2 : decode prog_47_method_9_code 2 = .ok (.caload, 1) := by decide +kernel
theorem d2_3 : decode prog_47_method_9_code 3 = .ok (.istore_n 3, 1) := by decide +kernel
theorem d2_4 : decode prog_47_method_9_code 4 = .ok (.iload_n 3, 1) := by decide +kernel
theorem d2_5 : decode prog_47_method_9_code 5 = .ok (.bipush 10, 2) := by decide +kernel
theorem d2_7 : decode prog_47_method_9_code 7 = .ok (.if_icmp .eq 26, 3) := by decide +kernel
theorem d2_10 : decode prog_47_method_9_code 10 = .ok (.iload_n 3, 1) := by decide +kernel
theorem d2_11 : decode prog_47_method_9_code 11 = .ok (.bipush 13, 2) := by decide +kernel
theorem d2_13 : decode prog_47_method_9_code 13 = .ok (.if_icmp .ne 24, 3) := by decide +kernel
theorem d2_16 : decode prog_47_method_9_code 16 = .ok (.iload_n 1, 1) := by decide +kernel
theorem d2_17 : decode prog_47_method_9_code 17 = .ok (.iconst 1, 1) := by decide +kernel
theorem d2_18 : decode prog_47_method_9_code 18 = .ok (.iadd, 1) := by decide +kernel
theorem d2_19 : decode prog_47_method_9_code 19 = .ok (.iload_n 2, 1) := by decide +kernel
theorem d2_20 : decode prog_47_method_9_code 20 = .ok (.if_icmp .eq 13, 3) := by decide +kernel
theorem d2_23 : decode prog_47_method_9_code 23 = .ok (.aload_n 0, 1) := by decide +kernel
theorem d2_24 : decode prog_47_method_9_code 24 = .ok (.iload_n 1, 1) := by decide +kernel
theorem d2_25 : decode prog_47_method_9_code 25 = .ok (.iconst 1, 1) := by decide +kernel
theorem d2_26 : decode prog_47_method_9_code 26 = .ok (.iadd, 1) := by decide +kernel
theorem d2_27 : decode prog_47_method_9_code 27 = .ok (.caload, 1) := by decide +kernel
theorem d2_28 : decode prog_47_method_9_code 28 = .ok (.bipush 10, 2) := by decide +kernel
theorem d2_30 : decode prog_47_method_9_code 30 = .ok (.if_icmp .eq 7, 3) := by decide +kernel
theorem d2_33 : decode prog_47_method_9_code 33 = .ok (.iconst 1, 1) := by decide +kernel
theorem d2_34 : decode prog_47_method_9_code 34 = .ok (.goto 4, 3) := by decide +kernel
theorem d2_37 : decode prog_47_method_9_code 37 = .ok (.iconst 0, 1) := by decide +kernel
theorem d2_38 : decode prog_47_method_9_code 38 = .ok (.ireturn, 1) := by decide +kernel
theorem pn_2 : plainName "com/example/neat_contract/neatcontract/document/Position" = true := by first | (simp [plainName, overriddenIn]; done) | decide +kernel
theorem ef_2 (m : MethodId) (x0 : Addr) (x1 : Int32) (x2 : Int32) : entryFrame m #[(.ref x0), (.int x1), (.int x2)] 4 = mkF m 0 #[.val (.ref x0), .val (.int x1), .val (.int x2), .unset] [] := by first | (simp [entryFrame, mkF, argsToLocals, Value.category]; done) | rfl
def f2 (p2 : Int32) (p3 : Int32) (vs_a1 : List Int32) : Int32 := (if (own_at vs_a1 p2) = (10 : Int32) then (1 : Int32) else (if (own_at vs_a1 p2) = (13 : Int32) then (if (p2 + (1 : Int32)) = p3 then (1 : Int32) else (if (own_at vs_a1 (p2 + (1 : Int32))) = (10 : Int32) then (0 : Int32) else (1 : Int32))) else (0 : Int32)))
def Q2 (Z : State) (a1 : Addr) (p2 : Int32) (p3 : Int32) (k_a1 : ClassId) (vs_a1 : List Int32) (n_a1 : Int32) (h0 : Heap) (n0 : Nat) (v : Option Value) (h : Heap) (L : List Loc) : Prop := v = some (.int (f2 p2 p3 vs_a1)) ∧ Fr n0 L ∧ h = h0
set_option maxRecDepth 65536 in
set_option maxHeartbeats 40000000 in
theorem rm2 (l : Launch) (Z : State) (a0 : Array Value) (hw : ∀ d ∈ tables_1, d.before a0 Z = true) (ws : List Jvm.Cond) (a1 : Addr) (p2 : Int32) (p3 : Int32) (k_a1 : ClassId) (vs_a1 : List Int32) (n_a1 : Int32) (h0 : Heap) (n0 : Nat) (Z0 : n0 ≤ h0.size) (V_a1 : Arv Z h0 a1 k_a1 .char n_a1 (vs_a1.map Value.int) (.int (0 : Int32))) (hin2 : (¬ (p2 < (0 : Int32)) ∧ p2 < n_a1)) (hin27 : ¬ ((own_at vs_a1 p2) = (10 : Int32)) → (own_at vs_a1 p2) = (13 : Int32) → ¬ ((p2 + (1 : Int32)) = p3) → (¬ ((p2 + (1 : Int32)) < (0 : Int32)) ∧ (p2 + (1 : Int32)) < n_a1)) :
    MetFree l (⟨"com/example/neat_contract/neatcontract/document/Position", "endsLine", "([CII)Z"⟩ : MethodName) (head1 (Jvm.Cond.code (⟨"com/example/neat_contract/neatcontract/document/Position", "endsLine", "([CII)Z"⟩ : MethodName) prog_47_method_9_code 4 (some .boolean) :: ws) ({ frames := 0, cells := 0, slots := 0, locals := 0 } : Room)) (fun a U => a = #[(.ref a1), (.int p2), (.int p3)] ∧ Z.Warmed39 U.vm ∧ U.heap = h0) (fun _ _ _ _ _ => True) (fun _ U o U' => ∃ v L, o = .returned v ∧ Q2 Z a1 p2 p3 k_a1 vs_a1 n_a1 h0 n0 v U'.heap L ∧ FrameEnd U o U' L ({ frames := 0, cells := 0, slots := 0, locals := 0 } : Room).cells ({ frames := 0, cells := 0, slots := 0, locals := 0 } : Room).slots) := by
  refine MetFree.of_bodySF (plainFor_of_name pn_2) hisR ?_
  intro p e s m args below meth c s₁ Bd hml0 hP hK
  obtain ⟨rfl, hZ, hh⟩ := hP
  have hx := Bd.exec
  have hby := Bd.bytes
  have hml : c.maxLocals = 4 := hml0
  have hown : s.vm.findClass "com/example/neat_contract/neatcontract/document/Position" = some m.cls := findClass_of_methodNamed Bd.named
  have hnm := (name_of_methodNamed Bd.named Bd.method).1
  have X0 : Stand p l e ({ frames := 0, cells := 0, slots := 0, locals := 0 } : Room) s m #[(.ref a1), (.int p2), (.int p3)] below meth c s₁ [] 0 0 := Stand.of_body Bd
  have e0 : s₁.heap = h0 := by rw [← hh, Bd.state]; rfl
  have N0 := Fr.nil n0
  have pre0 : ∀ t, Steps p.tables e below (s₁.setTop (mkF m 0 #[.val (.ref a1), .val (.int p2), .val (.int p3), .unset] [])) t → Steps p.tables e below (s₁.setTop (entryFrame m #[(.ref a1), (.int p2), (.int p3)] 4)) t := fun t k => castTop (ef_2 m a1 p2 p3) k
  obtain ⟨cl4, Ar4, qq4, Ss4, Nn4, Hh4, Gg4⟩ := id V_a1
  have hin4 : ¬ (p2 < 0 ∨ cl4.slots.size ≤ (p2).toNatClampNeg) := inb_of Ss4 (hin2)
  have hat4 := Has.at (v := (.int (own_at vs_a1 p2))) Hh4 hin4 (own_getD _ _)
  have pre5 : ∀ t, Steps p.tables e below (s₁.setTop (mkF m 7 #[.val (.ref a1), .val (.int p2), .val (.int p3), .val (.int (own_at vs_a1 p2))] [(.int (10 : Int32)), (.int (own_at vs_a1 p2))])) t → Steps p.tables e below (s₁.setTop (entryFrame m #[(.ref a1), (.int p2), (.int p3)] 4)) t := fun t kt => by
    refine pre0 _ ?_
    show Steps p.tables e below (s₁.setTop (mkF m 0 #[.val (.ref a1), .val (.int p2), .val (.int p3), .unset] [])) _
    refine XS.aloadN X0.here hx rfl (hb hby d2_0) rfl rfl ?_
    show Steps p.tables e below (s₁.setTop (mkF m 1 _ [(.ref a1)])) _
    refine XS.iloadN X0.here hx rfl (hb hby d2_1) rfl ?_
    show Steps p.tables e below (s₁.setTop (mkF m 2 _ [(.int p2), (.ref a1)])) _
    refine X0.caload hx (j := p2) (v := (.int (own_at vs_a1 p2))) (by rw [e0]; exact Ar4.1) (State.isArrayOf_alike hZ.alike Ar4.2.1) Ar4.2.2 hin4 hat4 (g := (mkF m 2 #[.val (.ref a1), .val (.int p2), .val (.int p3), .unset] [(.int p2), (.ref a1)])) rfl rfl (hb hby d2_2) _ ?_
    show Steps p.tables e below (s₁.setTop (mkF m 3 _ [(.int (own_at vs_a1 p2))])) _
    refine XS.istoreN X0.here hx rfl (hb hby d2_3) rfl (l' := #[.val (.ref a1), .val (.int p2), .val (.int p3), .val (.int (own_at vs_a1 p2))]) rfl ?_
    show Steps p.tables e below (s₁.setTop (mkF m 4 _ [])) _
    refine XS.iloadN X0.here hx rfl (hb hby d2_4) rfl ?_
    show Steps p.tables e below (s₁.setTop (mkF m 5 _ [(.int (own_at vs_a1 p2))])) _
    refine XS.bipush X0.here hx rfl (hb hby d2_5) ?_
    exact kt
  by_cases hc6 : (own_at vs_a1 p2) = (10 : Int32)
  · skip
    obtain ⟨fs, hr, hrun, hended, hW, hsame⟩ := X0.leave (v := some (.int (1 : Int32))) (fun h => by rw [Bd.returns] at h; cases h) (by first | exact BodyLoose.notSynchronized Bd | exact Body.notSynchronized Bd)
    refine ⟨_, _, pre5 _ ?_, hrun, hended, _, _, rfl, ?_, ⟨_, rfl⟩, hW, hsame.mono (by decide) (by decide)⟩
    · show Steps p.tables e below (s₁.setTop (mkF m 7 #[.val (.ref a1), .val (.int p2), .val (.int p3), .val (.int (own_at vs_a1 p2))] [(.int (10 : Int32)), (.int (own_at vs_a1 p2))])) _
      refine XS.icmpYes X0.here hx rfl (pc0 := 7) (pc' := 33) rfl (hb hby d2_7) rfl (teq hc6).1 (by decide) (by decide) ?_
      show Steps p.tables e below (s₁.setTop (mkF m 33 _ [])) _
      refine XS.iconst X0.here hx rfl (hb hby d2_33) ?_
      show Steps p.tables e below (s₁.setTop (mkF m 34 _ [(.int (1 : Int32))])) _
      refine XS.goto X0.here hx rfl (pc0 := 34) (pc' := 38) rfl (hb hby d2_34) (by decide) (by decide) ?_
      show Steps p.tables e below (s₁.setTop (mkF m 38 #[.val (.ref a1), .val (.int p2), .val (.int p3), .val (.int (own_at vs_a1 p2))] [(.int (1 : Int32))])) _
      exact retN X0 hx (t := .boolean) Bd.returns (by simp) (hb hby d2_38) hr
    · show Q2 Z a1 p2 p3 k_a1 vs_a1 n_a1 h0 n0 _ s₁.heap _
      rw [e0]
      exact ⟨congrArg (fun z => some (Value.int z)) (by rw [f2, if_pos hc6] : f2 p2 p3 vs_a1 = (1 : Int32)).symm, N0, rfl⟩
  · skip
    have pre7 : ∀ t, Steps p.tables e below (s₁.setTop (mkF m 13 #[.val (.ref a1), .val (.int p2), .val (.int p3), .val (.int (own_at vs_a1 p2))] [(.int (13 : Int32)), (.int (own_at vs_a1 p2))])) t → Steps p.tables e below (s₁.setTop (entryFrame m #[(.ref a1), (.int p2), (.int p3)] 4)) t := fun t kt => by
      refine pre5 _ ?_
      show Steps p.tables e below (s₁.setTop (mkF m 7 #[.val (.ref a1), .val (.int p2), .val (.int p3), .val (.int (own_at vs_a1 p2))] [(.int (10 : Int32)), (.int (own_at vs_a1 p2))])) _
      refine XS.icmpNo X0.here hx rfl (hb hby d2_7) rfl (feq hc6).1 ?_
      show Steps p.tables e below (s₁.setTop (mkF m 10 _ [])) _
      refine XS.iloadN X0.here hx rfl (hb hby d2_10) rfl ?_
      show Steps p.tables e below (s₁.setTop (mkF m 11 _ [(.int (own_at vs_a1 p2))])) _
      refine XS.bipush X0.here hx rfl (hb hby d2_11) ?_
      exact kt
    by_cases hc8 : (own_at vs_a1 p2) = (13 : Int32)
    · skip
      have pre9 : ∀ t, Steps p.tables e below (s₁.setTop (mkF m 20 #[.val (.ref a1), .val (.int p2), .val (.int p3), .val (.int (own_at vs_a1 p2))] [(.int p3), (.int (p2 + (1 : Int32)))])) t → Steps p.tables e below (s₁.setTop (entryFrame m #[(.ref a1), (.int p2), (.int p3)] 4)) t := fun t kt => by
        refine pre7 _ ?_
        show Steps p.tables e below (s₁.setTop (mkF m 13 #[.val (.ref a1), .val (.int p2), .val (.int p3), .val (.int (own_at vs_a1 p2))] [(.int (13 : Int32)), (.int (own_at vs_a1 p2))])) _
        refine XS.icmpNo X0.here hx rfl (hb hby d2_13) rfl (teq hc8).2 ?_
        show Steps p.tables e below (s₁.setTop (mkF m 16 _ [])) _
        refine XS.iloadN X0.here hx rfl (hb hby d2_16) rfl ?_
        show Steps p.tables e below (s₁.setTop (mkF m 17 _ [(.int p2)])) _
        refine XS.iconst X0.here hx rfl (hb hby d2_17) ?_
        show Steps p.tables e below (s₁.setTop (mkF m 18 _ [(.int (1 : Int32)), (.int p2)])) _
        refine XS.iadd X0.here hx rfl (hb hby d2_18) rfl ?_
        show Steps p.tables e below (s₁.setTop (mkF m 19 _ [(.int (p2 + (1 : Int32)))])) _
        refine XS.iloadN X0.here hx rfl (hb hby d2_19) rfl ?_
        exact kt
      by_cases hc10 : (p2 + (1 : Int32)) = p3
      · skip
        obtain ⟨fs, hr, hrun, hended, hW, hsame⟩ := X0.leave (v := some (.int (1 : Int32))) (fun h => by rw [Bd.returns] at h; cases h) (by first | exact BodyLoose.notSynchronized Bd | exact Body.notSynchronized Bd)
        refine ⟨_, _, pre9 _ ?_, hrun, hended, _, _, rfl, ?_, ⟨_, rfl⟩, hW, hsame.mono (by decide) (by decide)⟩
        · show Steps p.tables e below (s₁.setTop (mkF m 20 #[.val (.ref a1), .val (.int p2), .val (.int p3), .val (.int (own_at vs_a1 p2))] [(.int p3), (.int (p2 + (1 : Int32)))])) _
          refine XS.icmpYes X0.here hx rfl (pc0 := 20) (pc' := 33) rfl (hb hby d2_20) rfl (teq hc10).1 (by decide) (by decide) ?_
          show Steps p.tables e below (s₁.setTop (mkF m 33 _ [])) _
          refine XS.iconst X0.here hx rfl (hb hby d2_33) ?_
          show Steps p.tables e below (s₁.setTop (mkF m 34 _ [(.int (1 : Int32))])) _
          refine XS.goto X0.here hx rfl (pc0 := 34) (pc' := 38) rfl (hb hby d2_34) (by decide) (by decide) ?_
          show Steps p.tables e below (s₁.setTop (mkF m 38 #[.val (.ref a1), .val (.int p2), .val (.int p3), .val (.int (own_at vs_a1 p2))] [(.int (1 : Int32))])) _
          exact retN X0 hx (t := .boolean) Bd.returns (by simp) (hb hby d2_38) hr
        · show Q2 Z a1 p2 p3 k_a1 vs_a1 n_a1 h0 n0 _ s₁.heap _
          rw [e0]
          exact ⟨congrArg (fun z => some (Value.int z)) (by rw [f2, if_neg hc6, if_pos hc8, if_pos hc10] : f2 p2 p3 vs_a1 = (1 : Int32)).symm, N0, rfl⟩
      · skip
        obtain ⟨cl11, Ar11, qq11, Ss11, Nn11, Hh11, Gg11⟩ := id V_a1
        have hin11 : ¬ ((p2 + (1 : Int32)) < 0 ∨ cl11.slots.size ≤ ((p2 + (1 : Int32))).toNatClampNeg) := inb_of Ss11 (hin27 hc6 hc8 hc10)
        have hat11 := Has.at (v := (.int (own_at vs_a1 (p2 + (1 : Int32))))) Hh11 hin11 (own_getD _ _)
        have pre12 : ∀ t, Steps p.tables e below (s₁.setTop (mkF m 30 #[.val (.ref a1), .val (.int p2), .val (.int p3), .val (.int (own_at vs_a1 p2))] [(.int (10 : Int32)), (.int (own_at vs_a1 (p2 + (1 : Int32))))])) t → Steps p.tables e below (s₁.setTop (entryFrame m #[(.ref a1), (.int p2), (.int p3)] 4)) t := fun t kt => by
          refine pre9 _ ?_
          show Steps p.tables e below (s₁.setTop (mkF m 20 #[.val (.ref a1), .val (.int p2), .val (.int p3), .val (.int (own_at vs_a1 p2))] [(.int p3), (.int (p2 + (1 : Int32)))])) _
          refine XS.icmpNo X0.here hx rfl (hb hby d2_20) rfl (feq hc10).1 ?_
          show Steps p.tables e below (s₁.setTop (mkF m 23 _ [])) _
          refine XS.aloadN X0.here hx rfl (hb hby d2_23) rfl rfl ?_
          show Steps p.tables e below (s₁.setTop (mkF m 24 _ [(.ref a1)])) _
          refine XS.iloadN X0.here hx rfl (hb hby d2_24) rfl ?_
          show Steps p.tables e below (s₁.setTop (mkF m 25 _ [(.int p2), (.ref a1)])) _
          refine XS.iconst X0.here hx rfl (hb hby d2_25) ?_
          show Steps p.tables e below (s₁.setTop (mkF m 26 _ [(.int (1 : Int32)), (.int p2), (.ref a1)])) _
          refine XS.iadd X0.here hx rfl (hb hby d2_26) rfl ?_
          show Steps p.tables e below (s₁.setTop (mkF m 27 _ [(.int (p2 + (1 : Int32))), (.ref a1)])) _
          refine X0.caload hx (j := (p2 + (1 : Int32))) (v := (.int (own_at vs_a1 (p2 + (1 : Int32))))) (by rw [e0]; exact Ar11.1) (State.isArrayOf_alike hZ.alike Ar11.2.1) Ar11.2.2 hin11 hat11 (g := (mkF m 27 #[.val (.ref a1), .val (.int p2), .val (.int p3), .val (.int (own_at vs_a1 p2))] [(.int (p2 + (1 : Int32))), (.ref a1)])) rfl rfl (hb hby d2_27) _ ?_
          show Steps p.tables e below (s₁.setTop (mkF m 28 _ [(.int (own_at vs_a1 (p2 + (1 : Int32))))])) _
          refine XS.bipush X0.here hx rfl (hb hby d2_28) ?_
          exact kt
        by_cases hc13 : (own_at vs_a1 (p2 + (1 : Int32))) = (10 : Int32)
        · skip
          obtain ⟨fs, hr, hrun, hended, hW, hsame⟩ := X0.leave (v := some (.int (0 : Int32))) (fun h => by rw [Bd.returns] at h; cases h) (by first | exact BodyLoose.notSynchronized Bd | exact Body.notSynchronized Bd)
          refine ⟨_, _, pre12 _ ?_, hrun, hended, _, _, rfl, ?_, ⟨_, rfl⟩, hW, hsame.mono (by decide) (by decide)⟩
          · show Steps p.tables e below (s₁.setTop (mkF m 30 #[.val (.ref a1), .val (.int p2), .val (.int p3), .val (.int (own_at vs_a1 p2))] [(.int (10 : Int32)), (.int (own_at vs_a1 (p2 + (1 : Int32))))])) _
            refine XS.icmpYes X0.here hx rfl (pc0 := 30) (pc' := 37) rfl (hb hby d2_30) rfl (teq hc13).1 (by decide) (by decide) ?_
            show Steps p.tables e below (s₁.setTop (mkF m 37 _ [])) _
            refine XS.iconst X0.here hx rfl (hb hby d2_37) ?_
            show Steps p.tables e below (s₁.setTop (mkF m 38 #[.val (.ref a1), .val (.int p2), .val (.int p3), .val (.int (own_at vs_a1 p2))] [(.int (0 : Int32))])) _
            exact retN X0 hx (t := .boolean) Bd.returns (by simp) (hb hby d2_38) hr
          · show Q2 Z a1 p2 p3 k_a1 vs_a1 n_a1 h0 n0 _ s₁.heap _
            rw [e0]
            exact ⟨congrArg (fun z => some (Value.int z)) (by rw [f2, if_neg hc6, if_pos hc8, if_neg hc10, if_pos hc13] : f2 p2 p3 vs_a1 = (0 : Int32)).symm, N0, rfl⟩
        · skip
          obtain ⟨fs, hr, hrun, hended, hW, hsame⟩ := X0.leave (v := some (.int (1 : Int32))) (fun h => by rw [Bd.returns] at h; cases h) (by first | exact BodyLoose.notSynchronized Bd | exact Body.notSynchronized Bd)
          refine ⟨_, _, pre12 _ ?_, hrun, hended, _, _, rfl, ?_, ⟨_, rfl⟩, hW, hsame.mono (by decide) (by decide)⟩
          · show Steps p.tables e below (s₁.setTop (mkF m 30 #[.val (.ref a1), .val (.int p2), .val (.int p3), .val (.int (own_at vs_a1 p2))] [(.int (10 : Int32)), (.int (own_at vs_a1 (p2 + (1 : Int32))))])) _
            refine XS.icmpNo X0.here hx rfl (hb hby d2_30) rfl (feq hc13).1 ?_
            show Steps p.tables e below (s₁.setTop (mkF m 33 _ [])) _
            refine XS.iconst X0.here hx rfl (hb hby d2_33) ?_
            show Steps p.tables e below (s₁.setTop (mkF m 34 _ [(.int (1 : Int32))])) _
            refine XS.goto X0.here hx rfl (pc0 := 34) (pc' := 38) rfl (hb hby d2_34) (by decide) (by decide) ?_
            show Steps p.tables e below (s₁.setTop (mkF m 38 #[.val (.ref a1), .val (.int p2), .val (.int p3), .val (.int (own_at vs_a1 p2))] [(.int (1 : Int32))])) _
            exact retN X0 hx (t := .boolean) Bd.returns (by simp) (hb hby d2_38) hr
          · show Q2 Z a1 p2 p3 k_a1 vs_a1 n_a1 h0 n0 _ s₁.heap _
            rw [e0]
            exact ⟨congrArg (fun z => some (Value.int z)) (by rw [f2, if_neg hc6, if_pos hc8, if_neg hc10, if_neg hc13] : f2 p2 p3 vs_a1 = (1 : Int32)).symm, N0, rfl⟩
    · skip
      obtain ⟨fs, hr, hrun, hended, hW, hsame⟩ := X0.leave (v := some (.int (0 : Int32))) (fun h => by rw [Bd.returns] at h; cases h) (by first | exact BodyLoose.notSynchronized Bd | exact Body.notSynchronized Bd)
      refine ⟨_, _, pre7 _ ?_, hrun, hended, _, _, rfl, ?_, ⟨_, rfl⟩, hW, hsame.mono (by decide) (by decide)⟩
      · show Steps p.tables e below (s₁.setTop (mkF m 13 #[.val (.ref a1), .val (.int p2), .val (.int p3), .val (.int (own_at vs_a1 p2))] [(.int (13 : Int32)), (.int (own_at vs_a1 p2))])) _
        refine XS.icmpYes X0.here hx rfl (pc0 := 13) (pc' := 37) rfl (hb hby d2_13) rfl (feq hc8).2 (by decide) (by decide) ?_
        show Steps p.tables e below (s₁.setTop (mkF m 37 _ [])) _
        refine XS.iconst X0.here hx rfl (hb hby d2_37) ?_
        show Steps p.tables e below (s₁.setTop (mkF m 38 #[.val (.ref a1), .val (.int p2), .val (.int p3), .val (.int (own_at vs_a1 p2))] [(.int (0 : Int32))])) _
        exact retN X0 hx (t := .boolean) Bd.returns (by simp) (hb hby d2_38) hr
      · show Q2 Z a1 p2 p3 k_a1 vs_a1 n_a1 h0 n0 _ s₁.heap _
        rw [e0]
        exact ⟨congrArg (fun z => some (Value.int z)) (by rw [f2, if_neg hc6, if_neg hc8] : f2 p2 p3 vs_a1 = (0 : Int32)).symm, N0, rfl⟩
theorem pn_0 : plainName "com/example/neat_contract/neatcontract/document/PositionEndsLinePinLaw" = true := by first | (simp [plainName, overriddenIn]; done) | decide +kernel
theorem pd_0_0 : parseMethodDescriptor "(I)C" = some ⟨[.int], some .char⟩ := by decide +kernel
theorem pd_0_1 : parseMethodDescriptor "([CII)Z" = some ⟨[(.array .char), .int, .int], some .boolean⟩ := by decide +kernel
theorem ef_0 (m : MethodId) (x0 : Int32) (x1 : Int32) (x2 : Int32) (x3 : Int32) (x4 : Int32) : entryFrame m #[(.int x0), (.int x1), (.int x2), (.int x3), (.int x4)] maxLocals = mkF m 0 #[.val (.int x0), .val (.int x1), .val (.int x2), .val (.int x3), .val (.int x4), .unset, .unset, .unset, .unset, .unset] [] := by first | (simp [entryFrame, mkF, argsToLocals, Value.category, maxLocals]; done) | rfl
def f0 (p1 : Int32) (p2 : Int32) (p3 : Int32) (p4 : Int32) (p5 : Int32) : Int32 := (if (own_at [(nar .char (f1 p1)), (nar .char (f1 p2)), (nar .char (f1 p3))] (own_idx p4 p5)) = (10 : Int32) then (if (f2 (own_idx p4 p5) (own_end p5) [(nar .char (f1 p1)), (nar .char (f1 p2)), (nar .char (f1 p3))]) = (1 : Int32) then (1 : Int32) else (0 : Int32)) else (if (own_at [(nar .char (f1 p1)), (nar .char (f1 p2)), (nar .char (f1 p3))] (own_idx p4 p5)) = (13 : Int32) then (if ((own_idx p4 p5) + (1 : Int32)) < (own_end p5) then (if (own_at [(nar .char (f1 p1)), (nar .char (f1 p2)), (nar .char (f1 p3))] ((own_idx p4 p5) + (1 : Int32))) = (10 : Int32) then (if (f2 (own_idx p4 p5) (own_end p5) [(nar .char (f1 p1)), (nar .char (f1 p2)), (nar .char (f1 p3))]) = (0 : Int32) then (1 : Int32) else (0 : Int32)) else (if (f2 (own_idx p4 p5) (own_end p5) [(nar .char (f1 p1)), (nar .char (f1 p2)), (nar .char (f1 p3))]) = (1 : Int32) then (1 : Int32) else (0 : Int32))) else (if (f2 (own_idx p4 p5) (own_end p5) [(nar .char (f1 p1)), (nar .char (f1 p2)), (nar .char (f1 p3))]) = (1 : Int32) then (1 : Int32) else (0 : Int32))) else (if (f2 (own_idx p4 p5) (own_end p5) [(nar .char (f1 p1)), (nar .char (f1 p2)), (nar .char (f1 p3))]) = (0 : Int32) then (1 : Int32) else (0 : Int32))))
def Q0 (Z : State) (p1 : Int32) (p2 : Int32) (p3 : Int32) (p4 : Int32) (p5 : Int32) (h0 : Heap) (n0 : Nat) (v : Option Value) (h : Heap) (L : List Loc) : Prop := v = some (.int (f0 p1 p2 p3 p4 p5)) ∧ Fr n0 L
set_option maxRecDepth 65536 in
set_option maxHeartbeats 40000000 in
theorem rm0 (l : Launch) (Z : State) (a0 : Array Value) (hw : ∀ d ∈ tables_1, d.before a0 Z = true) (ws : List Jvm.Cond) (p1 : Int32) (p2 : Int32) (p3 : Int32) (p4 : Int32) (p5 : Int32) (h0 : Heap) (n0 : Nat) (Z0 : n0 ≤ h0.size) :
    MetFree l x (head1 (Jvm.Cond.code x code maxLocals ret :: ws) room_1) (fun a U => a = #[(.int p1), (.int p2), (.int p3), (.int p4), (.int p5)] ∧ Z.Warmed39 U.vm ∧ U.heap = h0) (fun _ _ _ _ _ => True) (fun _ U o U' => ∃ v L, o = .returned v ∧ Q0 Z p1 p2 p3 p4 p5 h0 n0 v U'.heap L ∧ FrameEnd U o U' L room_1.cells room_1.slots) := by
  refine MetFree.of_bodySF (plainFor_of_name pn_0) hisR ?_
  intro p e s m args below meth c s₁ Bd hml0 hP hK
  obtain ⟨rfl, hZ, hh⟩ := hP
  have hx := Bd.exec
  have hby := Bd.bytes
  have hml : c.maxLocals = 10 := hml0
  have hown : s.vm.findClass "com/example/neat_contract/neatcontract/document/PositionEndsLinePinLaw" = some m.cls := findClass_of_methodNamed Bd.named
  have hnm := (name_of_methodNamed Bd.named Bd.method).1
  have X0 : Stand p l e room_1 s m #[(.int p1), (.int p2), (.int p3), (.int p4), (.int p5)] below meth c s₁ [] 0 0 := Stand.of_body Bd
  have e0 : s₁.heap = h0 := by rw [← hh, Bd.state]; rfl
  have N0 := Fr.nil n0
  have pre0 : ∀ t, Steps p.tables e below (s₁.setTop (mkF m 0 #[.val (.int p1), .val (.int p2), .val (.int p3), .val (.int p4), .val (.int p5), .unset, .unset, .unset, .unset, .unset] [])) t → Steps p.tables e below (s₁.setTop (entryFrame m #[(.int p1), (.int p2), (.int p3), (.int p4), (.int p5)] maxLocals)) t := fun t k => castTop (ef_0 m p1 p2 p3 p4 p5) k
  obtain ⟨T6, h6, k6, X6, e6, E6, A6, st6⟩ := newP X0 hx hZ (hw _ (List.mem_of_getElem? (i := 0) rfl)) e0 (g := (mkF m 1 #[.val (.int p1), .val (.int p2), .val (.int p3), .val (.int p4), .val (.int p5), .unset, .unset, .unset, .unset, .unset] [(.int (3 : Int32))])) rfl (hb hby at_1) rfl (by decide) (cap := 3) (by decide) (by decide) (by decide) (by decide)
  obtain ⟨b6, g6⟩ : ∃ z, z = h0.size := ⟨_, rfl⟩
  rw [← g6] at A6 st6
  have g_b6 : n0 ≤ b6 := Nat.le_trans Z0 (Nat.le_of_eq g6.symm)
  have V_b6 : Arv Z h6 b6 k6 .char (3 : Int32) ([(0 : Int32), (0 : Int32), (0 : Int32)].map Value.int) (.int (0 : Int32)) := (Arv.new A6 (by decide)).pad (pad_rep [] (.int (0 : Int32)) 3)
  have Zs8 : n0 ≤ h6.size := (Nat.le_trans Z0 E6.1)
  obtain ⟨_, _, ⟨T7, L7, k7, n7⟩, -, X7, ⟨Lc7, hQ7, l7, y7, z7⟩, st7⟩ := Jvm.LawKit.callS X6 hx (y := (⟨"com/example/neat_contract/neatcontract/document/PositionEndsLinePinLaw", "drawn", "(I)C"⟩ : MethodName)) hown (mvT hZ (hw _ (List.mem_of_getElem? (i := 1) rfl))) (mvT hZ (hw _ (List.mem_of_getElem? (i := 2) rfl))) (mvT hZ (hw _ (List.mem_of_getElem? (i := 3) rfl))) (mvT hZ (hw _ (List.mem_of_getElem? (i := 4) rfl))) (by decide) (backOf (W := 2) (rm1 l Z a0 hw [] p1 h6 n0 Zs8 ) hZ (hw _ (List.mem_of_getElem? (i := 4) rfl)) (hw _ (List.mem_of_getElem? (i := 3) rfl)) (by decide) (by decide)) (g := (mkF m 9 #[.val (.int p1), .val (.int p2), .val (.int p3), .val (.int p4), .val (.int p5), .val (.ref b6), .unset, .unset, .unset, .unset] [(.int p1), (.int (0 : Int32)), (.ref b6)])) rfl (by rw [hml]; rfl) (argsL := [(.int p1)]) (rest := [(.int (0 : Int32)), (.ref b6)]) (lenOf pd_0_0 rfl) rfl (by show 2 * 0 + _ ≤ _; exact Nat.le_of_eq rfl) (hb hby at_9) (fun _ _ => ⟨rfl, e6, (by decide : 1 + 0 ≤ _), (by decide : 3 + 0 ≤ _)⟩)
  dsimp only [Pt.U, Pt.locs, Pt.cells, Pt.slots] at X7 l7 y7 z7 st7 hQ7
  subst l7 y7 z7
  obtain ⟨rfl, N7q, e7⟩ := hQ7
  have N7 := Fr.app N0 N7q
  obtain ⟨cl9, Ar9, qq9, Ss9, Nn9, Hh9, Gg9⟩ := id V_b6
  have hin9 : ¬ ((0 : Int32) < 0 ∨ cl9.slots.size ≤ ((0 : Int32)).toNatClampNeg) := inb_of Ss9 ⟨by decide, by decide⟩
  obtain ⟨T9, h9, X9, e9, W9, st9⟩ := stC X7 hx hZ e7 Ar9 (j := (0 : Int32)) hin9 (g := (mkF m 12 #[.val (.int p1), .val (.int p2), .val (.int p3), .val (.int p4), .val (.int p5), .val (.ref b6), .unset, .unset, .unset, .unset] [(.int (f1 p1)), (.int (0 : Int32)), (.ref b6)])) rfl rfl (hb hby at_12)
  have V9 : Arv Z h9 b6 k6 .char (3 : Int32) ([(nar .char (f1 p1)), (0 : Int32), (0 : Int32)].map Value.int) (.int (0 : Int32)) := Arv.set Ar9 qq9 Ss9 Nn9 Hh9 Gg9 (fits_nar_char _) W9 0 rfl (Nat.le_of_ble_eq_true rfl)
  have N9 := Fr.snoc X9 N7 g_b6
  have Zs11 : n0 ≤ h9.size := (Nat.le_trans Zs8 (Keep.of_wr W9).1)
  obtain ⟨_, _, ⟨T10, L10, k10, n10⟩, -, X10, ⟨Lc10, hQ10, l10, y10, z10⟩, st10⟩ := Jvm.LawKit.callS X9 hx (y := (⟨"com/example/neat_contract/neatcontract/document/PositionEndsLinePinLaw", "drawn", "(I)C"⟩ : MethodName)) hown (mvT hZ (hw _ (List.mem_of_getElem? (i := 1) rfl))) (mvT hZ (hw _ (List.mem_of_getElem? (i := 2) rfl))) (mvT hZ (hw _ (List.mem_of_getElem? (i := 3) rfl))) (mvT hZ (hw _ (List.mem_of_getElem? (i := 4) rfl))) (by decide) (backOf (W := 2) (rm1 l Z a0 hw [] p2 h9 n0 Zs11 ) hZ (hw _ (List.mem_of_getElem? (i := 4) rfl)) (hw _ (List.mem_of_getElem? (i := 3) rfl)) (by decide) (by decide)) (g := (mkF m 17 #[.val (.int p1), .val (.int p2), .val (.int p3), .val (.int p4), .val (.int p5), .val (.ref b6), .unset, .unset, .unset, .unset] [(.int p2), (.int (1 : Int32)), (.ref b6)])) rfl (by rw [hml]; rfl) (argsL := [(.int p2)]) (rest := [(.int (1 : Int32)), (.ref b6)]) (lenOf pd_0_0 rfl) rfl (by show 2 * 0 + _ ≤ _; exact Nat.le_of_eq rfl) (hb hby at_17) (fun _ _ => ⟨rfl, e9, (by decide : 1 + 0 ≤ _), (by decide : 3 + 0 ≤ _)⟩)
  dsimp only [Pt.U, Pt.locs, Pt.cells, Pt.slots] at X10 l10 y10 z10 st10 hQ10
  subst l10 y10 z10
  obtain ⟨rfl, N10q, e10⟩ := hQ10
  have N10 := Fr.app N9 N10q
  obtain ⟨cl12, Ar12, qq12, Ss12, Nn12, Hh12, Gg12⟩ := id V9
  have hin12 : ¬ ((1 : Int32) < 0 ∨ cl12.slots.size ≤ ((1 : Int32)).toNatClampNeg) := inb_of Ss12 ⟨by decide, by decide⟩
  obtain ⟨T12, h12, X12, e12, W12, st12⟩ := stC X10 hx hZ e10 Ar12 (j := (1 : Int32)) hin12 (g := (mkF m 20 #[.val (.int p1), .val (.int p2), .val (.int p3), .val (.int p4), .val (.int p5), .val (.ref b6), .unset, .unset, .unset, .unset] [(.int (f1 p2)), (.int (1 : Int32)), (.ref b6)])) rfl rfl (hb hby at_20)
  have V12 : Arv Z h12 b6 k6 .char (3 : Int32) ([(nar .char (f1 p1)), (nar .char (f1 p2)), (0 : Int32)].map Value.int) (.int (0 : Int32)) := Arv.set Ar12 qq12 Ss12 Nn12 Hh12 Gg12 (fits_nar_char _) W12 1 rfl (Nat.le_of_ble_eq_true rfl)
  have N12 := Fr.snoc X12 N10 g_b6
  have Zs14 : n0 ≤ h12.size := (Nat.le_trans Zs11 (Keep.of_wr W12).1)
  obtain ⟨_, _, ⟨T13, L13, k13, n13⟩, -, X13, ⟨Lc13, hQ13, l13, y13, z13⟩, st13⟩ := Jvm.LawKit.callS X12 hx (y := (⟨"com/example/neat_contract/neatcontract/document/PositionEndsLinePinLaw", "drawn", "(I)C"⟩ : MethodName)) hown (mvT hZ (hw _ (List.mem_of_getElem? (i := 1) rfl))) (mvT hZ (hw _ (List.mem_of_getElem? (i := 2) rfl))) (mvT hZ (hw _ (List.mem_of_getElem? (i := 3) rfl))) (mvT hZ (hw _ (List.mem_of_getElem? (i := 4) rfl))) (by decide) (backOf (W := 2) (rm1 l Z a0 hw [] p3 h12 n0 Zs14 ) hZ (hw _ (List.mem_of_getElem? (i := 4) rfl)) (hw _ (List.mem_of_getElem? (i := 3) rfl)) (by decide) (by decide)) (g := (mkF m 25 #[.val (.int p1), .val (.int p2), .val (.int p3), .val (.int p4), .val (.int p5), .val (.ref b6), .unset, .unset, .unset, .unset] [(.int p3), (.int (2 : Int32)), (.ref b6)])) rfl (by rw [hml]; rfl) (argsL := [(.int p3)]) (rest := [(.int (2 : Int32)), (.ref b6)]) (lenOf pd_0_0 rfl) rfl (by show 2 * 0 + _ ≤ _; exact Nat.le_of_eq rfl) (hb hby at_25) (fun _ _ => ⟨rfl, e12, (by decide : 1 + 0 ≤ _), (by decide : 3 + 0 ≤ _)⟩)
  dsimp only [Pt.U, Pt.locs, Pt.cells, Pt.slots] at X13 l13 y13 z13 st13 hQ13
  subst l13 y13 z13
  obtain ⟨rfl, N13q, e13⟩ := hQ13
  have N13 := Fr.app N12 N13q
  obtain ⟨cl15, Ar15, qq15, Ss15, Nn15, Hh15, Gg15⟩ := id V12
  have hin15 : ¬ ((2 : Int32) < 0 ∨ cl15.slots.size ≤ ((2 : Int32)).toNatClampNeg) := inb_of Ss15 ⟨by decide, by decide⟩
  obtain ⟨T15, h15, X15, e15, W15, st15⟩ := stC X13 hx hZ e13 Ar15 (j := (2 : Int32)) hin15 (g := (mkF m 28 #[.val (.int p1), .val (.int p2), .val (.int p3), .val (.int p4), .val (.int p5), .val (.ref b6), .unset, .unset, .unset, .unset] [(.int (f1 p3)), (.int (2 : Int32)), (.ref b6)])) rfl rfl (hb hby at_28)
  have V15 : Arv Z h15 b6 k6 .char (3 : Int32) ([(nar .char (f1 p1)), (nar .char (f1 p2)), (nar .char (f1 p3))].map Value.int) (.int (0 : Int32)) := Arv.set Ar15 qq15 Ss15 Nn15 Hh15 Gg15 (fits_nar_char _) W15 2 rfl (Nat.le_of_ble_eq_true rfl)
  have N15 := Fr.snoc X15 N13 g_b6
  have Zs16 : n0 ≤ h15.size := (Nat.le_trans Zs14 (Keep.of_wr W15).1)
  obtain ⟨cl17, Ar17, qq17, Ss17, Nn17, Hh17, Gg17⟩ := id V15
  have hin17 : ¬ ((own_idx p4 p5) < 0 ∨ cl17.slots.size ≤ ((own_idx p4 p5)).toNatClampNeg) := inb_of Ss17 (own_in53 p4 p5)
  have hat17 := Has.at (v := (.int (own_at [(nar .char (f1 p1)), (nar .char (f1 p2)), (nar .char (f1 p3))] (own_idx p4 p5)))) Hh17 hin17 (own_getD _ _)
  have pre18 : ∀ t, Steps p.tables e below (T15.setTop (mkF m 60 #[.val (.int p1), .val (.int p2), .val (.int p3), .val (.int p4), .val (.int p5), .val (.ref b6), .val (.int (own_end p5)), .val (.int (own_idx p4 p5)), .val (.int (own_at [(nar .char (f1 p1)), (nar .char (f1 p2)), (nar .char (f1 p3))] (own_idx p4 p5))), .unset] [(.int (10 : Int32)), (.int (own_at [(nar .char (f1 p1)), (nar .char (f1 p2)), (nar .char (f1 p3))] (own_idx p4 p5)))])) t → Steps p.tables e below (s₁.setTop (entryFrame m #[(.int p1), (.int p2), (.int p3), (.int p4), (.int p5)] maxLocals)) t := fun t kt => by
    refine pre0 _ ?_
    show Steps p.tables e below (s₁.setTop (mkF m 0 #[.val (.int p1), .val (.int p2), .val (.int p3), .val (.int p4), .val (.int p5), .unset, .unset, .unset, .unset, .unset] [])) _
    refine XS.iconst X0.here hx rfl (hb hby at_0) ?_
    show Steps p.tables e below (s₁.setTop (mkF m 1 _ [(.int (3 : Int32))])) _
    refine st6 _ ?_
    show Steps p.tables e below (T6.setTop (mkF m 3 _ [(.ref b6)])) _
    refine XS.astore X6.here hx rfl (hb hby at_3) rfl rfl (l' := #[.val (.int p1), .val (.int p2), .val (.int p3), .val (.int p4), .val (.int p5), .val (.ref b6), .unset, .unset, .unset, .unset]) rfl ?_
    show Steps p.tables e below (T6.setTop (mkF m 5 _ [])) _
    refine XS.aload X6.here hx rfl (hb hby at_5) rfl rfl ?_
    show Steps p.tables e below (T6.setTop (mkF m 7 _ [(.ref b6)])) _
    refine XS.iconst X6.here hx rfl (hb hby at_7) ?_
    show Steps p.tables e below (T6.setTop (mkF m 8 _ [(.int (0 : Int32)), (.ref b6)])) _
    refine XS.iloadN X6.here hx rfl (hb hby at_8) rfl ?_
    show Steps p.tables e below (T6.setTop (mkF m 9 _ [(.int p1), (.int (0 : Int32)), (.ref b6)])) _
    refine st7 _ ?_
    show Steps p.tables e below (T7.setTop (mkF m 12 _ [(.int (f1 p1)), (.int (0 : Int32)), (.ref b6)])) _
    refine st9 _ ?_
    show Steps p.tables e below (T9.setTop (mkF m 13 _ [])) _
    refine XS.aload X9.here hx rfl (hb hby at_13) rfl rfl ?_
    show Steps p.tables e below (T9.setTop (mkF m 15 _ [(.ref b6)])) _
    refine XS.iconst X9.here hx rfl (hb hby at_15) ?_
    show Steps p.tables e below (T9.setTop (mkF m 16 _ [(.int (1 : Int32)), (.ref b6)])) _
    refine XS.iloadN X9.here hx rfl (hb hby at_16) rfl ?_
    show Steps p.tables e below (T9.setTop (mkF m 17 _ [(.int p2), (.int (1 : Int32)), (.ref b6)])) _
    refine st10 _ ?_
    show Steps p.tables e below (T10.setTop (mkF m 20 _ [(.int (f1 p2)), (.int (1 : Int32)), (.ref b6)])) _
    refine st12 _ ?_
    show Steps p.tables e below (T12.setTop (mkF m 21 _ [])) _
    refine XS.aload X12.here hx rfl (hb hby at_21) rfl rfl ?_
    show Steps p.tables e below (T12.setTop (mkF m 23 _ [(.ref b6)])) _
    refine XS.iconst X12.here hx rfl (hb hby at_23) ?_
    show Steps p.tables e below (T12.setTop (mkF m 24 _ [(.int (2 : Int32)), (.ref b6)])) _
    refine XS.iloadN X12.here hx rfl (hb hby at_24) rfl ?_
    show Steps p.tables e below (T12.setTop (mkF m 25 _ [(.int p3), (.int (2 : Int32)), (.ref b6)])) _
    refine st13 _ ?_
    show Steps p.tables e below (T13.setTop (mkF m 28 _ [(.int (f1 p3)), (.int (2 : Int32)), (.ref b6)])) _
    refine st15 _ ?_
    show Steps p.tables e below (T15.setTop (mkF m 29 _ [])) _
    refine XS.iconst X15.here hx rfl (hb hby at_29) ?_
    show Steps p.tables e below (T15.setTop (mkF m 30 _ [(.int (1 : Int32))])) _
    refine XS.iload X15.here hx rfl (hb hby at_30) rfl ?_
    show Steps p.tables e below (T15.setTop (mkF m 32 _ [(.int p5), (.int (1 : Int32))])) _
    refine X15.ldcInt hx hown (mvT hZ (hw _ (List.mem_of_getElem? (i := 6) rfl))) (g := (mkF m 32 #[.val (.int p1), .val (.int p2), .val (.int p3), .val (.int p4), .val (.int p5), .val (.ref b6), .unset, .unset, .unset, .unset] [(.int p5), (.int (1 : Int32))])) rfl (hb hby at_32) _ ?_
    show Steps p.tables e below (T15.setTop (mkF m 34 _ [(.int (2147483647 : Int32)), (.int p5), (.int (1 : Int32))])) _
    refine XS.iand X15.here hx rfl (hb hby at_34) rfl ?_
    show Steps p.tables e below (T15.setTop (mkF m 35 _ [(.int (p5 &&& (2147483647 : Int32))), (.int (1 : Int32))])) _
    refine XS.iconst X15.here hx rfl (hb hby at_35) ?_
    show Steps p.tables e below (T15.setTop (mkF m 36 _ [(.int (3 : Int32)), (.int (p5 &&& (2147483647 : Int32))), (.int (1 : Int32))])) _
    refine XS.irem X15.here hx rfl (hb hby at_36) rfl (by decide) ?_
    show Steps p.tables e below (T15.setTop (mkF m 37 _ [(.int ((p5 &&& (2147483647 : Int32)) - ((p5 &&& (2147483647 : Int32)) / (3 : Int32)) * (3 : Int32))), (.int (1 : Int32))])) _
    refine XS.iadd X15.here hx rfl (hb hby at_37) rfl ?_
    show Steps p.tables e below (T15.setTop (mkF m 38 _ [(.int (own_end p5))])) _
    refine XS.istore X15.here hx rfl (hb hby at_38) rfl (l' := #[.val (.int p1), .val (.int p2), .val (.int p3), .val (.int p4), .val (.int p5), .val (.ref b6), .val (.int (own_end p5)), .unset, .unset, .unset]) rfl ?_
    show Steps p.tables e below (T15.setTop (mkF m 40 _ [])) _
    refine XS.iloadN X15.here hx rfl (hb hby at_40) rfl ?_
    show Steps p.tables e below (T15.setTop (mkF m 41 _ [(.int p4)])) _
    refine X15.ldcInt hx hown (mvT hZ (hw _ (List.mem_of_getElem? (i := 6) rfl))) (g := (mkF m 41 #[.val (.int p1), .val (.int p2), .val (.int p3), .val (.int p4), .val (.int p5), .val (.ref b6), .val (.int (own_end p5)), .unset, .unset, .unset] [(.int p4)])) rfl (hb hby at_41) _ ?_
    show Steps p.tables e below (T15.setTop (mkF m 43 _ [(.int (2147483647 : Int32)), (.int p4)])) _
    refine XS.iand X15.here hx rfl (hb hby at_43) rfl ?_
    show Steps p.tables e below (T15.setTop (mkF m 44 _ [(.int (p4 &&& (2147483647 : Int32)))])) _
    refine XS.iload X15.here hx rfl (hb hby at_44) rfl ?_
    show Steps p.tables e below (T15.setTop (mkF m 46 _ [(.int (own_end p5)), (.int (p4 &&& (2147483647 : Int32)))])) _
    refine XS.irem X15.here hx rfl (hb hby at_46) rfl (own_e0 p5) ?_
    show Steps p.tables e below (T15.setTop (mkF m 47 _ [(.int (own_idx p4 p5))])) _
    refine XS.istore X15.here hx rfl (hb hby at_47) rfl (l' := #[.val (.int p1), .val (.int p2), .val (.int p3), .val (.int p4), .val (.int p5), .val (.ref b6), .val (.int (own_end p5)), .val (.int (own_idx p4 p5)), .unset, .unset]) rfl ?_
    show Steps p.tables e below (T15.setTop (mkF m 49 _ [])) _
    refine XS.aload X15.here hx rfl (hb hby at_49) rfl rfl ?_
    show Steps p.tables e below (T15.setTop (mkF m 51 _ [(.ref b6)])) _
    refine XS.iload X15.here hx rfl (hb hby at_51) rfl ?_
    show Steps p.tables e below (T15.setTop (mkF m 53 _ [(.int (own_idx p4 p5)), (.ref b6)])) _
    refine X15.caload hx (j := (own_idx p4 p5)) (v := (.int (own_at [(nar .char (f1 p1)), (nar .char (f1 p2)), (nar .char (f1 p3))] (own_idx p4 p5)))) (by rw [e15]; exact Ar17.1) (State.isArrayOf_alike hZ.alike Ar17.2.1) Ar17.2.2 hin17 hat17 (g := (mkF m 53 #[.val (.int p1), .val (.int p2), .val (.int p3), .val (.int p4), .val (.int p5), .val (.ref b6), .val (.int (own_end p5)), .val (.int (own_idx p4 p5)), .unset, .unset] [(.int (own_idx p4 p5)), (.ref b6)])) rfl rfl (hb hby at_53) _ ?_
    show Steps p.tables e below (T15.setTop (mkF m 54 _ [(.int (own_at [(nar .char (f1 p1)), (nar .char (f1 p2)), (nar .char (f1 p3))] (own_idx p4 p5)))])) _
    refine XS.istore X15.here hx rfl (hb hby at_54) rfl (l' := #[.val (.int p1), .val (.int p2), .val (.int p3), .val (.int p4), .val (.int p5), .val (.ref b6), .val (.int (own_end p5)), .val (.int (own_idx p4 p5)), .val (.int (own_at [(nar .char (f1 p1)), (nar .char (f1 p2)), (nar .char (f1 p3))] (own_idx p4 p5))), .unset]) rfl ?_
    show Steps p.tables e below (T15.setTop (mkF m 56 _ [])) _
    refine XS.iload X15.here hx rfl (hb hby at_56) rfl ?_
    show Steps p.tables e below (T15.setTop (mkF m 58 _ [(.int (own_at [(nar .char (f1 p1)), (nar .char (f1 p2)), (nar .char (f1 p3))] (own_idx p4 p5)))])) _
    refine XS.bipush X15.here hx rfl (hb hby at_58) ?_
    exact kt
  by_cases hc19 : (own_at [(nar .char (f1 p1)), (nar .char (f1 p2)), (nar .char (f1 p3))] (own_idx p4 p5)) = (10 : Int32)
  · skip
    obtain ⟨_, _, ⟨T20, L20, k20, n20⟩, -, X20, ⟨Lc20, hQ20, l20, y20, z20⟩, st20⟩ := Jvm.LawKit.callS X15 hx (y := (⟨"com/example/neat_contract/neatcontract/document/Position", "endsLine", "([CII)Z"⟩ : MethodName)) hown (mvT hZ (hw _ (List.mem_of_getElem? (i := 7) rfl))) (mvT hZ (hw _ (List.mem_of_getElem? (i := 8) rfl))) (mvT hZ (hw _ (List.mem_of_getElem? (i := 9) rfl))) (mvT hZ (hw _ (List.mem_of_getElem? (i := 10) rfl))) (by decide) (backOf (W := 0) (rm2 l Z a0 hw [] b6 (own_idx p4 p5) (own_end p5) k6 [(nar .char (f1 p1)), (nar .char (f1 p2)), (nar .char (f1 p3))] (3 : Int32) h15 n0 Zs16 V15 (own_in53 p4 p5) (fun _ _ h => own_in122 p4 p5 h)) hZ (hw _ (List.mem_of_getElem? (i := 10) rfl)) (hw _ (List.mem_of_getElem? (i := 9) rfl)) (by decide) (by decide)) (g := (mkF m 122 #[.val (.int p1), .val (.int p2), .val (.int p3), .val (.int p4), .val (.int p5), .val (.ref b6), .val (.int (own_end p5)), .val (.int (own_idx p4 p5)), .val (.int (own_at [(nar .char (f1 p1)), (nar .char (f1 p2)), (nar .char (f1 p3))] (own_idx p4 p5))), .val (.int (1 : Int32))] [(.int (own_end p5)), (.int (own_idx p4 p5)), (.ref b6)])) rfl (by rw [hml]; rfl) (argsL := [(.ref b6), (.int (own_idx p4 p5)), (.int (own_end p5))]) (rest := []) (lenOf pd_0_1 rfl) rfl (by show 2 * 0 + _ ≤ _; exact Nat.le_of_eq rfl) (hb hby at_122) (fun _ _ => ⟨rfl, e15, (by decide : 1 + 0 ≤ _), (by decide : 3 + 0 ≤ _)⟩)
    dsimp only [Pt.U, Pt.locs, Pt.cells, Pt.slots] at X20 l20 y20 z20 st20 hQ20
    subst l20 y20 z20
    obtain ⟨rfl, N20q, e20⟩ := hQ20
    have N20 := Fr.app N15 N20q
    have pre21 : ∀ t, Steps p.tables e below (T20.setTop (mkF m 127 #[.val (.int p1), .val (.int p2), .val (.int p3), .val (.int p4), .val (.int p5), .val (.ref b6), .val (.int (own_end p5)), .val (.int (own_idx p4 p5)), .val (.int (own_at [(nar .char (f1 p1)), (nar .char (f1 p2)), (nar .char (f1 p3))] (own_idx p4 p5))), .val (.int (1 : Int32))] [(.int (1 : Int32)), (.int (f2 (own_idx p4 p5) (own_end p5) [(nar .char (f1 p1)), (nar .char (f1 p2)), (nar .char (f1 p3))]))])) t → Steps p.tables e below (s₁.setTop (entryFrame m #[(.int p1), (.int p2), (.int p3), (.int p4), (.int p5)] maxLocals)) t := fun t kt => by
      refine pre18 _ ?_
      show Steps p.tables e below (T15.setTop (mkF m 60 #[.val (.int p1), .val (.int p2), .val (.int p3), .val (.int p4), .val (.int p5), .val (.ref b6), .val (.int (own_end p5)), .val (.int (own_idx p4 p5)), .val (.int (own_at [(nar .char (f1 p1)), (nar .char (f1 p2)), (nar .char (f1 p3))] (own_idx p4 p5))), .unset] [(.int (10 : Int32)), (.int (own_at [(nar .char (f1 p1)), (nar .char (f1 p2)), (nar .char (f1 p3))] (own_idx p4 p5)))])) _
      refine XS.icmpNo X15.here hx rfl (hb hby at_60) rfl (teq hc19).2 ?_
      show Steps p.tables e below (T15.setTop (mkF m 63 _ [])) _
      refine XS.iconst X15.here hx rfl (hb hby at_63) ?_
      show Steps p.tables e below (T15.setTop (mkF m 64 _ [(.int (1 : Int32))])) _
      refine XS.istore X15.here hx rfl (hb hby at_64) rfl (l' := #[.val (.int p1), .val (.int p2), .val (.int p3), .val (.int p4), .val (.int p5), .val (.ref b6), .val (.int (own_end p5)), .val (.int (own_idx p4 p5)), .val (.int (own_at [(nar .char (f1 p1)), (nar .char (f1 p2)), (nar .char (f1 p3))] (own_idx p4 p5))), .val (.int (1 : Int32))]) rfl ?_
      show Steps p.tables e below (T15.setTop (mkF m 66 _ [])) _
      refine XS.goto X15.here hx rfl (pc0 := 66) (pc' := 116) rfl (hb hby at_66) (by decide) (by decide) ?_
      show Steps p.tables e below (T15.setTop (mkF m 116 _ [])) _
      refine XS.aload X15.here hx rfl (hb hby at_116) rfl rfl ?_
      show Steps p.tables e below (T15.setTop (mkF m 118 _ [(.ref b6)])) _
      refine XS.iload X15.here hx rfl (hb hby at_118) rfl ?_
      show Steps p.tables e below (T15.setTop (mkF m 120 _ [(.int (own_idx p4 p5)), (.ref b6)])) _
      refine XS.iload X15.here hx rfl (hb hby at_120) rfl ?_
      show Steps p.tables e below (T15.setTop (mkF m 122 _ [(.int (own_end p5)), (.int (own_idx p4 p5)), (.ref b6)])) _
      refine st20 _ ?_
      show Steps p.tables e below (T20.setTop (mkF m 125 _ [(.int (f2 (own_idx p4 p5) (own_end p5) [(nar .char (f1 p1)), (nar .char (f1 p2)), (nar .char (f1 p3))]))])) _
      refine XS.iload X20.here hx rfl (hb hby at_125) rfl ?_
      exact kt
    by_cases hc22 : (f2 (own_idx p4 p5) (own_end p5) [(nar .char (f1 p1)), (nar .char (f1 p2)), (nar .char (f1 p3))]) = (1 : Int32)
    · skip
      obtain ⟨fs, hr, hrun, hended, hW, hsame⟩ := X20.leave (v := some (.int (1 : Int32))) (fun h => by rw [Bd.returns] at h; cases h) (by first | exact BodyLoose.notSynchronized Bd | exact Body.notSynchronized Bd)
      refine ⟨_, _, pre21 _ ?_, hrun, hended, _, _, rfl, ?_, ⟨_, rfl⟩, hW, hsame.mono (by decide) (by decide)⟩
      · show Steps p.tables e below (T20.setTop (mkF m 127 #[.val (.int p1), .val (.int p2), .val (.int p3), .val (.int p4), .val (.int p5), .val (.ref b6), .val (.int (own_end p5)), .val (.int (own_idx p4 p5)), .val (.int (own_at [(nar .char (f1 p1)), (nar .char (f1 p2)), (nar .char (f1 p3))] (own_idx p4 p5))), .val (.int (1 : Int32))] [(.int (1 : Int32)), (.int (f2 (own_idx p4 p5) (own_end p5) [(nar .char (f1 p1)), (nar .char (f1 p2)), (nar .char (f1 p3))]))])) _
        refine XS.icmpNo X20.here hx rfl (hb hby at_127) rfl (teq hc22).2 ?_
        show Steps p.tables e below (T20.setTop (mkF m 130 _ [])) _
        refine XS.iconst X20.here hx rfl (hb hby at_130) ?_
        show Steps p.tables e below (T20.setTop (mkF m 131 _ [(.int (1 : Int32))])) _
        refine XS.goto X20.here hx rfl (pc0 := 131) (pc' := 135) rfl (hb hby at_131) (by decide) (by decide) ?_
        show Steps p.tables e below (T20.setTop (mkF m 135 #[.val (.int p1), .val (.int p2), .val (.int p3), .val (.int p4), .val (.int p5), .val (.ref b6), .val (.int (own_end p5)), .val (.int (own_idx p4 p5)), .val (.int (own_at [(nar .char (f1 p1)), (nar .char (f1 p2)), (nar .char (f1 p3))] (own_idx p4 p5))), .val (.int (1 : Int32))] [(.int (1 : Int32))])) _
        exact retN X20 hx (t := .boolean) Bd.returns (by simp) (hb hby at_135) hr
      · show Q0 Z p1 p2 p3 p4 p5 h0 n0 _ T20.heap _
        rw [e20]
        exact ⟨congrArg (fun z => some (Value.int z)) (by rw [f0, if_pos hc19, if_pos hc22] : f0 p1 p2 p3 p4 p5 = (1 : Int32)).symm, N20⟩
    · skip
      obtain ⟨fs, hr, hrun, hended, hW, hsame⟩ := X20.leave (v := some (.int (0 : Int32))) (fun h => by rw [Bd.returns] at h; cases h) (by first | exact BodyLoose.notSynchronized Bd | exact Body.notSynchronized Bd)
      refine ⟨_, _, pre21 _ ?_, hrun, hended, _, _, rfl, ?_, ⟨_, rfl⟩, hW, hsame.mono (by decide) (by decide)⟩
      · show Steps p.tables e below (T20.setTop (mkF m 127 #[.val (.int p1), .val (.int p2), .val (.int p3), .val (.int p4), .val (.int p5), .val (.ref b6), .val (.int (own_end p5)), .val (.int (own_idx p4 p5)), .val (.int (own_at [(nar .char (f1 p1)), (nar .char (f1 p2)), (nar .char (f1 p3))] (own_idx p4 p5))), .val (.int (1 : Int32))] [(.int (1 : Int32)), (.int (f2 (own_idx p4 p5) (own_end p5) [(nar .char (f1 p1)), (nar .char (f1 p2)), (nar .char (f1 p3))]))])) _
        refine XS.icmpYes X20.here hx rfl (pc0 := 127) (pc' := 134) rfl (hb hby at_127) rfl (feq hc22).2 (by decide) (by decide) ?_
        show Steps p.tables e below (T20.setTop (mkF m 134 _ [])) _
        refine XS.iconst X20.here hx rfl (hb hby at_134) ?_
        show Steps p.tables e below (T20.setTop (mkF m 135 #[.val (.int p1), .val (.int p2), .val (.int p3), .val (.int p4), .val (.int p5), .val (.ref b6), .val (.int (own_end p5)), .val (.int (own_idx p4 p5)), .val (.int (own_at [(nar .char (f1 p1)), (nar .char (f1 p2)), (nar .char (f1 p3))] (own_idx p4 p5))), .val (.int (1 : Int32))] [(.int (0 : Int32))])) _
        exact retN X20 hx (t := .boolean) Bd.returns (by simp) (hb hby at_135) hr
      · show Q0 Z p1 p2 p3 p4 p5 h0 n0 _ T20.heap _
        rw [e20]
        exact ⟨congrArg (fun z => some (Value.int z)) (by rw [f0, if_pos hc19, if_neg hc22] : f0 p1 p2 p3 p4 p5 = (0 : Int32)).symm, N20⟩
  · skip
    have pre23 : ∀ t, Steps p.tables e below (T15.setTop (mkF m 73 #[.val (.int p1), .val (.int p2), .val (.int p3), .val (.int p4), .val (.int p5), .val (.ref b6), .val (.int (own_end p5)), .val (.int (own_idx p4 p5)), .val (.int (own_at [(nar .char (f1 p1)), (nar .char (f1 p2)), (nar .char (f1 p3))] (own_idx p4 p5))), .unset] [(.int (13 : Int32)), (.int (own_at [(nar .char (f1 p1)), (nar .char (f1 p2)), (nar .char (f1 p3))] (own_idx p4 p5)))])) t → Steps p.tables e below (s₁.setTop (entryFrame m #[(.int p1), (.int p2), (.int p3), (.int p4), (.int p5)] maxLocals)) t := fun t kt => by
      refine pre18 _ ?_
      show Steps p.tables e below (T15.setTop (mkF m 60 #[.val (.int p1), .val (.int p2), .val (.int p3), .val (.int p4), .val (.int p5), .val (.ref b6), .val (.int (own_end p5)), .val (.int (own_idx p4 p5)), .val (.int (own_at [(nar .char (f1 p1)), (nar .char (f1 p2)), (nar .char (f1 p3))] (own_idx p4 p5))), .unset] [(.int (10 : Int32)), (.int (own_at [(nar .char (f1 p1)), (nar .char (f1 p2)), (nar .char (f1 p3))] (own_idx p4 p5)))])) _
      refine XS.icmpYes X15.here hx rfl (pc0 := 60) (pc' := 69) rfl (hb hby at_60) rfl (feq hc19).2 (by decide) (by decide) ?_
      show Steps p.tables e below (T15.setTop (mkF m 69 _ [])) _
      refine XS.iload X15.here hx rfl (hb hby at_69) rfl ?_
      show Steps p.tables e below (T15.setTop (mkF m 71 _ [(.int (own_at [(nar .char (f1 p1)), (nar .char (f1 p2)), (nar .char (f1 p3))] (own_idx p4 p5)))])) _
      refine XS.bipush X15.here hx rfl (hb hby at_71) ?_
      exact kt
    by_cases hc24 : (own_at [(nar .char (f1 p1)), (nar .char (f1 p2)), (nar .char (f1 p3))] (own_idx p4 p5)) = (13 : Int32)
    · skip
      have pre25 : ∀ t, Steps p.tables e below (T15.setTop (mkF m 88 #[.val (.int p1), .val (.int p2), .val (.int p3), .val (.int p4), .val (.int p5), .val (.ref b6), .val (.int (own_end p5)), .val (.int (own_idx p4 p5)), .val (.int (own_at [(nar .char (f1 p1)), (nar .char (f1 p2)), (nar .char (f1 p3))] (own_idx p4 p5))), .unset] [(.int (own_end p5)), (.int ((own_idx p4 p5) + (1 : Int32)))])) t → Steps p.tables e below (s₁.setTop (entryFrame m #[(.int p1), (.int p2), (.int p3), (.int p4), (.int p5)] maxLocals)) t := fun t kt => by
        refine pre23 _ ?_
        show Steps p.tables e below (T15.setTop (mkF m 73 #[.val (.int p1), .val (.int p2), .val (.int p3), .val (.int p4), .val (.int p5), .val (.ref b6), .val (.int (own_end p5)), .val (.int (own_idx p4 p5)), .val (.int (own_at [(nar .char (f1 p1)), (nar .char (f1 p2)), (nar .char (f1 p3))] (own_idx p4 p5))), .unset] [(.int (13 : Int32)), (.int (own_at [(nar .char (f1 p1)), (nar .char (f1 p2)), (nar .char (f1 p3))] (own_idx p4 p5)))])) _
        refine XS.icmpYes X15.here hx rfl (pc0 := 73) (pc' := 82) rfl (hb hby at_73) rfl (teq hc24).1 (by decide) (by decide) ?_
        show Steps p.tables e below (T15.setTop (mkF m 82 _ [])) _
        refine XS.iload X15.here hx rfl (hb hby at_82) rfl ?_
        show Steps p.tables e below (T15.setTop (mkF m 84 _ [(.int (own_idx p4 p5))])) _
        refine XS.iconst X15.here hx rfl (hb hby at_84) ?_
        show Steps p.tables e below (T15.setTop (mkF m 85 _ [(.int (1 : Int32)), (.int (own_idx p4 p5))])) _
        refine XS.iadd X15.here hx rfl (hb hby at_85) rfl ?_
        show Steps p.tables e below (T15.setTop (mkF m 86 _ [(.int ((own_idx p4 p5) + (1 : Int32)))])) _
        refine XS.iload X15.here hx rfl (hb hby at_86) rfl ?_
        exact kt
      by_cases hc26 : ((own_idx p4 p5) + (1 : Int32)) < (own_end p5)
      · skip
        obtain ⟨cl27, Ar27, qq27, Ss27, Nn27, Hh27, Gg27⟩ := id V15
        have hin27 : ¬ (((own_idx p4 p5) + (1 : Int32)) < 0 ∨ cl27.slots.size ≤ (((own_idx p4 p5) + (1 : Int32))).toNatClampNeg) := inb_of Ss27 (own_in103 p4 p5 (by assumption))
        have hat27 := Has.at (v := (.int (own_at [(nar .char (f1 p1)), (nar .char (f1 p2)), (nar .char (f1 p3))] ((own_idx p4 p5) + (1 : Int32))))) Hh27 hin27 (own_getD _ _)
        have pre28 : ∀ t, Steps p.tables e below (T15.setTop (mkF m 106 #[.val (.int p1), .val (.int p2), .val (.int p3), .val (.int p4), .val (.int p5), .val (.ref b6), .val (.int (own_end p5)), .val (.int (own_idx p4 p5)), .val (.int (own_at [(nar .char (f1 p1)), (nar .char (f1 p2)), (nar .char (f1 p3))] (own_idx p4 p5))), .unset] [(.int (10 : Int32)), (.int (own_at [(nar .char (f1 p1)), (nar .char (f1 p2)), (nar .char (f1 p3))] ((own_idx p4 p5) + (1 : Int32))))])) t → Steps p.tables e below (s₁.setTop (entryFrame m #[(.int p1), (.int p2), (.int p3), (.int p4), (.int p5)] maxLocals)) t := fun t kt => by
          refine pre25 _ ?_
          show Steps p.tables e below (T15.setTop (mkF m 88 #[.val (.int p1), .val (.int p2), .val (.int p3), .val (.int p4), .val (.int p5), .val (.ref b6), .val (.int (own_end p5)), .val (.int (own_idx p4 p5)), .val (.int (own_at [(nar .char (f1 p1)), (nar .char (f1 p2)), (nar .char (f1 p3))] (own_idx p4 p5))), .unset] [(.int (own_end p5)), (.int ((own_idx p4 p5) + (1 : Int32)))])) _
          refine XS.icmpYes X15.here hx rfl (pc0 := 88) (pc' := 97) rfl (hb hby at_88) rfl (tlt hc26).1 (by decide) (by decide) ?_
          show Steps p.tables e below (T15.setTop (mkF m 97 _ [])) _
          refine XS.aload X15.here hx rfl (hb hby at_97) rfl rfl ?_
          show Steps p.tables e below (T15.setTop (mkF m 99 _ [(.ref b6)])) _
          refine XS.iload X15.here hx rfl (hb hby at_99) rfl ?_
          show Steps p.tables e below (T15.setTop (mkF m 101 _ [(.int (own_idx p4 p5)), (.ref b6)])) _
          refine XS.iconst X15.here hx rfl (hb hby at_101) ?_
          show Steps p.tables e below (T15.setTop (mkF m 102 _ [(.int (1 : Int32)), (.int (own_idx p4 p5)), (.ref b6)])) _
          refine XS.iadd X15.here hx rfl (hb hby at_102) rfl ?_
          show Steps p.tables e below (T15.setTop (mkF m 103 _ [(.int ((own_idx p4 p5) + (1 : Int32))), (.ref b6)])) _
          refine X15.caload hx (j := ((own_idx p4 p5) + (1 : Int32))) (v := (.int (own_at [(nar .char (f1 p1)), (nar .char (f1 p2)), (nar .char (f1 p3))] ((own_idx p4 p5) + (1 : Int32))))) (by rw [e15]; exact Ar27.1) (State.isArrayOf_alike hZ.alike Ar27.2.1) Ar27.2.2 hin27 hat27 (g := (mkF m 103 #[.val (.int p1), .val (.int p2), .val (.int p3), .val (.int p4), .val (.int p5), .val (.ref b6), .val (.int (own_end p5)), .val (.int (own_idx p4 p5)), .val (.int (own_at [(nar .char (f1 p1)), (nar .char (f1 p2)), (nar .char (f1 p3))] (own_idx p4 p5))), .unset] [(.int ((own_idx p4 p5) + (1 : Int32))), (.ref b6)])) rfl rfl (hb hby at_103) _ ?_
          show Steps p.tables e below (T15.setTop (mkF m 104 _ [(.int (own_at [(nar .char (f1 p1)), (nar .char (f1 p2)), (nar .char (f1 p3))] ((own_idx p4 p5) + (1 : Int32))))])) _
          refine XS.bipush X15.here hx rfl (hb hby at_104) ?_
          exact kt
        by_cases hc29 : (own_at [(nar .char (f1 p1)), (nar .char (f1 p2)), (nar .char (f1 p3))] ((own_idx p4 p5) + (1 : Int32))) = (10 : Int32)
        · skip
          obtain ⟨_, _, ⟨T30, L30, k30, n30⟩, -, X30, ⟨Lc30, hQ30, l30, y30, z30⟩, st30⟩ := Jvm.LawKit.callS X15 hx (y := (⟨"com/example/neat_contract/neatcontract/document/Position", "endsLine", "([CII)Z"⟩ : MethodName)) hown (mvT hZ (hw _ (List.mem_of_getElem? (i := 7) rfl))) (mvT hZ (hw _ (List.mem_of_getElem? (i := 8) rfl))) (mvT hZ (hw _ (List.mem_of_getElem? (i := 9) rfl))) (mvT hZ (hw _ (List.mem_of_getElem? (i := 10) rfl))) (by decide) (backOf (W := 0) (rm2 l Z a0 hw [] b6 (own_idx p4 p5) (own_end p5) k6 [(nar .char (f1 p1)), (nar .char (f1 p2)), (nar .char (f1 p3))] (3 : Int32) h15 n0 Zs16 V15 (own_in53 p4 p5) (fun _ _ h => own_in122 p4 p5 h)) hZ (hw _ (List.mem_of_getElem? (i := 10) rfl)) (hw _ (List.mem_of_getElem? (i := 9) rfl)) (by decide) (by decide)) (g := (mkF m 122 #[.val (.int p1), .val (.int p2), .val (.int p3), .val (.int p4), .val (.int p5), .val (.ref b6), .val (.int (own_end p5)), .val (.int (own_idx p4 p5)), .val (.int (own_at [(nar .char (f1 p1)), (nar .char (f1 p2)), (nar .char (f1 p3))] (own_idx p4 p5))), .val (.int (0 : Int32))] [(.int (own_end p5)), (.int (own_idx p4 p5)), (.ref b6)])) rfl (by rw [hml]; rfl) (argsL := [(.ref b6), (.int (own_idx p4 p5)), (.int (own_end p5))]) (rest := []) (lenOf pd_0_1 rfl) rfl (by show 2 * 0 + _ ≤ _; exact Nat.le_of_eq rfl) (hb hby at_122) (fun _ _ => ⟨rfl, e15, (by decide : 1 + 0 ≤ _), (by decide : 3 + 0 ≤ _)⟩)
          dsimp only [Pt.U, Pt.locs, Pt.cells, Pt.slots] at X30 l30 y30 z30 st30 hQ30
          subst l30 y30 z30
          obtain ⟨rfl, N30q, e30⟩ := hQ30
          have N30 := Fr.app N15 N30q
          have pre31 : ∀ t, Steps p.tables e below (T30.setTop (mkF m 127 #[.val (.int p1), .val (.int p2), .val (.int p3), .val (.int p4), .val (.int p5), .val (.ref b6), .val (.int (own_end p5)), .val (.int (own_idx p4 p5)), .val (.int (own_at [(nar .char (f1 p1)), (nar .char (f1 p2)), (nar .char (f1 p3))] (own_idx p4 p5))), .val (.int (0 : Int32))] [(.int (0 : Int32)), (.int (f2 (own_idx p4 p5) (own_end p5) [(nar .char (f1 p1)), (nar .char (f1 p2)), (nar .char (f1 p3))]))])) t → Steps p.tables e below (s₁.setTop (entryFrame m #[(.int p1), (.int p2), (.int p3), (.int p4), (.int p5)] maxLocals)) t := fun t kt => by
            refine pre28 _ ?_
            show Steps p.tables e below (T15.setTop (mkF m 106 #[.val (.int p1), .val (.int p2), .val (.int p3), .val (.int p4), .val (.int p5), .val (.ref b6), .val (.int (own_end p5)), .val (.int (own_idx p4 p5)), .val (.int (own_at [(nar .char (f1 p1)), (nar .char (f1 p2)), (nar .char (f1 p3))] (own_idx p4 p5))), .unset] [(.int (10 : Int32)), (.int (own_at [(nar .char (f1 p1)), (nar .char (f1 p2)), (nar .char (f1 p3))] ((own_idx p4 p5) + (1 : Int32))))])) _
            refine XS.icmpYes X15.here hx rfl (pc0 := 106) (pc' := 113) rfl (hb hby at_106) rfl (teq hc29).1 (by decide) (by decide) ?_
            show Steps p.tables e below (T15.setTop (mkF m 113 _ [])) _
            refine XS.iconst X15.here hx rfl (hb hby at_113) ?_
            show Steps p.tables e below (T15.setTop (mkF m 114 _ [(.int (0 : Int32))])) _
            refine XS.istore X15.here hx rfl (hb hby at_114) rfl (l' := #[.val (.int p1), .val (.int p2), .val (.int p3), .val (.int p4), .val (.int p5), .val (.ref b6), .val (.int (own_end p5)), .val (.int (own_idx p4 p5)), .val (.int (own_at [(nar .char (f1 p1)), (nar .char (f1 p2)), (nar .char (f1 p3))] (own_idx p4 p5))), .val (.int (0 : Int32))]) rfl ?_
            show Steps p.tables e below (T15.setTop (mkF m 116 _ [])) _
            refine XS.aload X15.here hx rfl (hb hby at_116) rfl rfl ?_
            show Steps p.tables e below (T15.setTop (mkF m 118 _ [(.ref b6)])) _
            refine XS.iload X15.here hx rfl (hb hby at_118) rfl ?_
            show Steps p.tables e below (T15.setTop (mkF m 120 _ [(.int (own_idx p4 p5)), (.ref b6)])) _
            refine XS.iload X15.here hx rfl (hb hby at_120) rfl ?_
            show Steps p.tables e below (T15.setTop (mkF m 122 _ [(.int (own_end p5)), (.int (own_idx p4 p5)), (.ref b6)])) _
            refine st30 _ ?_
            show Steps p.tables e below (T30.setTop (mkF m 125 _ [(.int (f2 (own_idx p4 p5) (own_end p5) [(nar .char (f1 p1)), (nar .char (f1 p2)), (nar .char (f1 p3))]))])) _
            refine XS.iload X30.here hx rfl (hb hby at_125) rfl ?_
            exact kt
          by_cases hc32 : (f2 (own_idx p4 p5) (own_end p5) [(nar .char (f1 p1)), (nar .char (f1 p2)), (nar .char (f1 p3))]) = (0 : Int32)
          · skip
            obtain ⟨fs, hr, hrun, hended, hW, hsame⟩ := X30.leave (v := some (.int (1 : Int32))) (fun h => by rw [Bd.returns] at h; cases h) (by first | exact BodyLoose.notSynchronized Bd | exact Body.notSynchronized Bd)
            refine ⟨_, _, pre31 _ ?_, hrun, hended, _, _, rfl, ?_, ⟨_, rfl⟩, hW, hsame.mono (by decide) (by decide)⟩
            · show Steps p.tables e below (T30.setTop (mkF m 127 #[.val (.int p1), .val (.int p2), .val (.int p3), .val (.int p4), .val (.int p5), .val (.ref b6), .val (.int (own_end p5)), .val (.int (own_idx p4 p5)), .val (.int (own_at [(nar .char (f1 p1)), (nar .char (f1 p2)), (nar .char (f1 p3))] (own_idx p4 p5))), .val (.int (0 : Int32))] [(.int (0 : Int32)), (.int (f2 (own_idx p4 p5) (own_end p5) [(nar .char (f1 p1)), (nar .char (f1 p2)), (nar .char (f1 p3))]))])) _
              refine XS.icmpNo X30.here hx rfl (hb hby at_127) rfl (teq hc32).2 ?_
              show Steps p.tables e below (T30.setTop (mkF m 130 _ [])) _
              refine XS.iconst X30.here hx rfl (hb hby at_130) ?_
              show Steps p.tables e below (T30.setTop (mkF m 131 _ [(.int (1 : Int32))])) _
              refine XS.goto X30.here hx rfl (pc0 := 131) (pc' := 135) rfl (hb hby at_131) (by decide) (by decide) ?_
              show Steps p.tables e below (T30.setTop (mkF m 135 #[.val (.int p1), .val (.int p2), .val (.int p3), .val (.int p4), .val (.int p5), .val (.ref b6), .val (.int (own_end p5)), .val (.int (own_idx p4 p5)), .val (.int (own_at [(nar .char (f1 p1)), (nar .char (f1 p2)), (nar .char (f1 p3))] (own_idx p4 p5))), .val (.int (0 : Int32))] [(.int (1 : Int32))])) _
              exact retN X30 hx (t := .boolean) Bd.returns (by simp) (hb hby at_135) hr
            · show Q0 Z p1 p2 p3 p4 p5 h0 n0 _ T30.heap _
              rw [e30]
              exact ⟨congrArg (fun z => some (Value.int z)) (by rw [f0, if_neg hc19, if_pos hc24, if_pos hc26, if_pos hc29, if_pos hc32] : f0 p1 p2 p3 p4 p5 = (1 : Int32)).symm, N30⟩
          · skip
            obtain ⟨fs, hr, hrun, hended, hW, hsame⟩ := X30.leave (v := some (.int (0 : Int32))) (fun h => by rw [Bd.returns] at h; cases h) (by first | exact BodyLoose.notSynchronized Bd | exact Body.notSynchronized Bd)
            refine ⟨_, _, pre31 _ ?_, hrun, hended, _, _, rfl, ?_, ⟨_, rfl⟩, hW, hsame.mono (by decide) (by decide)⟩
            · show Steps p.tables e below (T30.setTop (mkF m 127 #[.val (.int p1), .val (.int p2), .val (.int p3), .val (.int p4), .val (.int p5), .val (.ref b6), .val (.int (own_end p5)), .val (.int (own_idx p4 p5)), .val (.int (own_at [(nar .char (f1 p1)), (nar .char (f1 p2)), (nar .char (f1 p3))] (own_idx p4 p5))), .val (.int (0 : Int32))] [(.int (0 : Int32)), (.int (f2 (own_idx p4 p5) (own_end p5) [(nar .char (f1 p1)), (nar .char (f1 p2)), (nar .char (f1 p3))]))])) _
              refine XS.icmpYes X30.here hx rfl (pc0 := 127) (pc' := 134) rfl (hb hby at_127) rfl (feq hc32).2 (by decide) (by decide) ?_
              show Steps p.tables e below (T30.setTop (mkF m 134 _ [])) _
              refine XS.iconst X30.here hx rfl (hb hby at_134) ?_
              show Steps p.tables e below (T30.setTop (mkF m 135 #[.val (.int p1), .val (.int p2), .val (.int p3), .val (.int p4), .val (.int p5), .val (.ref b6), .val (.int (own_end p5)), .val (.int (own_idx p4 p5)), .val (.int (own_at [(nar .char (f1 p1)), (nar .char (f1 p2)), (nar .char (f1 p3))] (own_idx p4 p5))), .val (.int (0 : Int32))] [(.int (0 : Int32))])) _
              exact retN X30 hx (t := .boolean) Bd.returns (by simp) (hb hby at_135) hr
            · show Q0 Z p1 p2 p3 p4 p5 h0 n0 _ T30.heap _
              rw [e30]
              exact ⟨congrArg (fun z => some (Value.int z)) (by rw [f0, if_neg hc19, if_pos hc24, if_pos hc26, if_pos hc29, if_neg hc32] : f0 p1 p2 p3 p4 p5 = (0 : Int32)).symm, N30⟩
        · skip
          obtain ⟨_, _, ⟨T33, L33, k33, n33⟩, -, X33, ⟨Lc33, hQ33, l33, y33, z33⟩, st33⟩ := Jvm.LawKit.callS X15 hx (y := (⟨"com/example/neat_contract/neatcontract/document/Position", "endsLine", "([CII)Z"⟩ : MethodName)) hown (mvT hZ (hw _ (List.mem_of_getElem? (i := 7) rfl))) (mvT hZ (hw _ (List.mem_of_getElem? (i := 8) rfl))) (mvT hZ (hw _ (List.mem_of_getElem? (i := 9) rfl))) (mvT hZ (hw _ (List.mem_of_getElem? (i := 10) rfl))) (by decide) (backOf (W := 0) (rm2 l Z a0 hw [] b6 (own_idx p4 p5) (own_end p5) k6 [(nar .char (f1 p1)), (nar .char (f1 p2)), (nar .char (f1 p3))] (3 : Int32) h15 n0 Zs16 V15 (own_in53 p4 p5) (fun _ _ h => own_in122 p4 p5 h)) hZ (hw _ (List.mem_of_getElem? (i := 10) rfl)) (hw _ (List.mem_of_getElem? (i := 9) rfl)) (by decide) (by decide)) (g := (mkF m 122 #[.val (.int p1), .val (.int p2), .val (.int p3), .val (.int p4), .val (.int p5), .val (.ref b6), .val (.int (own_end p5)), .val (.int (own_idx p4 p5)), .val (.int (own_at [(nar .char (f1 p1)), (nar .char (f1 p2)), (nar .char (f1 p3))] (own_idx p4 p5))), .val (.int (1 : Int32))] [(.int (own_end p5)), (.int (own_idx p4 p5)), (.ref b6)])) rfl (by rw [hml]; rfl) (argsL := [(.ref b6), (.int (own_idx p4 p5)), (.int (own_end p5))]) (rest := []) (lenOf pd_0_1 rfl) rfl (by show 2 * 0 + _ ≤ _; exact Nat.le_of_eq rfl) (hb hby at_122) (fun _ _ => ⟨rfl, e15, (by decide : 1 + 0 ≤ _), (by decide : 3 + 0 ≤ _)⟩)
          dsimp only [Pt.U, Pt.locs, Pt.cells, Pt.slots] at X33 l33 y33 z33 st33 hQ33
          subst l33 y33 z33
          obtain ⟨rfl, N33q, e33⟩ := hQ33
          have N33 := Fr.app N15 N33q
          have pre34 : ∀ t, Steps p.tables e below (T33.setTop (mkF m 127 #[.val (.int p1), .val (.int p2), .val (.int p3), .val (.int p4), .val (.int p5), .val (.ref b6), .val (.int (own_end p5)), .val (.int (own_idx p4 p5)), .val (.int (own_at [(nar .char (f1 p1)), (nar .char (f1 p2)), (nar .char (f1 p3))] (own_idx p4 p5))), .val (.int (1 : Int32))] [(.int (1 : Int32)), (.int (f2 (own_idx p4 p5) (own_end p5) [(nar .char (f1 p1)), (nar .char (f1 p2)), (nar .char (f1 p3))]))])) t → Steps p.tables e below (s₁.setTop (entryFrame m #[(.int p1), (.int p2), (.int p3), (.int p4), (.int p5)] maxLocals)) t := fun t kt => by
            refine pre28 _ ?_
            show Steps p.tables e below (T15.setTop (mkF m 106 #[.val (.int p1), .val (.int p2), .val (.int p3), .val (.int p4), .val (.int p5), .val (.ref b6), .val (.int (own_end p5)), .val (.int (own_idx p4 p5)), .val (.int (own_at [(nar .char (f1 p1)), (nar .char (f1 p2)), (nar .char (f1 p3))] (own_idx p4 p5))), .unset] [(.int (10 : Int32)), (.int (own_at [(nar .char (f1 p1)), (nar .char (f1 p2)), (nar .char (f1 p3))] ((own_idx p4 p5) + (1 : Int32))))])) _
            refine XS.icmpNo X15.here hx rfl (hb hby at_106) rfl (feq hc29).1 ?_
            show Steps p.tables e below (T15.setTop (mkF m 109 _ [])) _
            refine XS.iconst X15.here hx rfl (hb hby at_109) ?_
            show Steps p.tables e below (T15.setTop (mkF m 110 _ [(.int (1 : Int32))])) _
            refine XS.goto X15.here hx rfl (pc0 := 110) (pc' := 114) rfl (hb hby at_110) (by decide) (by decide) ?_
            show Steps p.tables e below (T15.setTop (mkF m 114 _ [(.int (1 : Int32))])) _
            refine XS.istore X15.here hx rfl (hb hby at_114) rfl (l' := #[.val (.int p1), .val (.int p2), .val (.int p3), .val (.int p4), .val (.int p5), .val (.ref b6), .val (.int (own_end p5)), .val (.int (own_idx p4 p5)), .val (.int (own_at [(nar .char (f1 p1)), (nar .char (f1 p2)), (nar .char (f1 p3))] (own_idx p4 p5))), .val (.int (1 : Int32))]) rfl ?_
            show Steps p.tables e below (T15.setTop (mkF m 116 _ [])) _
            refine XS.aload X15.here hx rfl (hb hby at_116) rfl rfl ?_
            show Steps p.tables e below (T15.setTop (mkF m 118 _ [(.ref b6)])) _
            refine XS.iload X15.here hx rfl (hb hby at_118) rfl ?_
            show Steps p.tables e below (T15.setTop (mkF m 120 _ [(.int (own_idx p4 p5)), (.ref b6)])) _
            refine XS.iload X15.here hx rfl (hb hby at_120) rfl ?_
            show Steps p.tables e below (T15.setTop (mkF m 122 _ [(.int (own_end p5)), (.int (own_idx p4 p5)), (.ref b6)])) _
            refine st33 _ ?_
            show Steps p.tables e below (T33.setTop (mkF m 125 _ [(.int (f2 (own_idx p4 p5) (own_end p5) [(nar .char (f1 p1)), (nar .char (f1 p2)), (nar .char (f1 p3))]))])) _
            refine XS.iload X33.here hx rfl (hb hby at_125) rfl ?_
            exact kt
          by_cases hc35 : (f2 (own_idx p4 p5) (own_end p5) [(nar .char (f1 p1)), (nar .char (f1 p2)), (nar .char (f1 p3))]) = (1 : Int32)
          · skip
            obtain ⟨fs, hr, hrun, hended, hW, hsame⟩ := X33.leave (v := some (.int (1 : Int32))) (fun h => by rw [Bd.returns] at h; cases h) (by first | exact BodyLoose.notSynchronized Bd | exact Body.notSynchronized Bd)
            refine ⟨_, _, pre34 _ ?_, hrun, hended, _, _, rfl, ?_, ⟨_, rfl⟩, hW, hsame.mono (by decide) (by decide)⟩
            · show Steps p.tables e below (T33.setTop (mkF m 127 #[.val (.int p1), .val (.int p2), .val (.int p3), .val (.int p4), .val (.int p5), .val (.ref b6), .val (.int (own_end p5)), .val (.int (own_idx p4 p5)), .val (.int (own_at [(nar .char (f1 p1)), (nar .char (f1 p2)), (nar .char (f1 p3))] (own_idx p4 p5))), .val (.int (1 : Int32))] [(.int (1 : Int32)), (.int (f2 (own_idx p4 p5) (own_end p5) [(nar .char (f1 p1)), (nar .char (f1 p2)), (nar .char (f1 p3))]))])) _
              refine XS.icmpNo X33.here hx rfl (hb hby at_127) rfl (teq hc35).2 ?_
              show Steps p.tables e below (T33.setTop (mkF m 130 _ [])) _
              refine XS.iconst X33.here hx rfl (hb hby at_130) ?_
              show Steps p.tables e below (T33.setTop (mkF m 131 _ [(.int (1 : Int32))])) _
              refine XS.goto X33.here hx rfl (pc0 := 131) (pc' := 135) rfl (hb hby at_131) (by decide) (by decide) ?_
              show Steps p.tables e below (T33.setTop (mkF m 135 #[.val (.int p1), .val (.int p2), .val (.int p3), .val (.int p4), .val (.int p5), .val (.ref b6), .val (.int (own_end p5)), .val (.int (own_idx p4 p5)), .val (.int (own_at [(nar .char (f1 p1)), (nar .char (f1 p2)), (nar .char (f1 p3))] (own_idx p4 p5))), .val (.int (1 : Int32))] [(.int (1 : Int32))])) _
              exact retN X33 hx (t := .boolean) Bd.returns (by simp) (hb hby at_135) hr
            · show Q0 Z p1 p2 p3 p4 p5 h0 n0 _ T33.heap _
              rw [e33]
              exact ⟨congrArg (fun z => some (Value.int z)) (by rw [f0, if_neg hc19, if_pos hc24, if_pos hc26, if_neg hc29, if_pos hc35] : f0 p1 p2 p3 p4 p5 = (1 : Int32)).symm, N33⟩
          · skip
            obtain ⟨fs, hr, hrun, hended, hW, hsame⟩ := X33.leave (v := some (.int (0 : Int32))) (fun h => by rw [Bd.returns] at h; cases h) (by first | exact BodyLoose.notSynchronized Bd | exact Body.notSynchronized Bd)
            refine ⟨_, _, pre34 _ ?_, hrun, hended, _, _, rfl, ?_, ⟨_, rfl⟩, hW, hsame.mono (by decide) (by decide)⟩
            · show Steps p.tables e below (T33.setTop (mkF m 127 #[.val (.int p1), .val (.int p2), .val (.int p3), .val (.int p4), .val (.int p5), .val (.ref b6), .val (.int (own_end p5)), .val (.int (own_idx p4 p5)), .val (.int (own_at [(nar .char (f1 p1)), (nar .char (f1 p2)), (nar .char (f1 p3))] (own_idx p4 p5))), .val (.int (1 : Int32))] [(.int (1 : Int32)), (.int (f2 (own_idx p4 p5) (own_end p5) [(nar .char (f1 p1)), (nar .char (f1 p2)), (nar .char (f1 p3))]))])) _
              refine XS.icmpYes X33.here hx rfl (pc0 := 127) (pc' := 134) rfl (hb hby at_127) rfl (feq hc35).2 (by decide) (by decide) ?_
              show Steps p.tables e below (T33.setTop (mkF m 134 _ [])) _
              refine XS.iconst X33.here hx rfl (hb hby at_134) ?_
              show Steps p.tables e below (T33.setTop (mkF m 135 #[.val (.int p1), .val (.int p2), .val (.int p3), .val (.int p4), .val (.int p5), .val (.ref b6), .val (.int (own_end p5)), .val (.int (own_idx p4 p5)), .val (.int (own_at [(nar .char (f1 p1)), (nar .char (f1 p2)), (nar .char (f1 p3))] (own_idx p4 p5))), .val (.int (1 : Int32))] [(.int (0 : Int32))])) _
              exact retN X33 hx (t := .boolean) Bd.returns (by simp) (hb hby at_135) hr
            · show Q0 Z p1 p2 p3 p4 p5 h0 n0 _ T33.heap _
              rw [e33]
              exact ⟨congrArg (fun z => some (Value.int z)) (by rw [f0, if_neg hc19, if_pos hc24, if_pos hc26, if_neg hc29, if_neg hc35] : f0 p1 p2 p3 p4 p5 = (0 : Int32)).symm, N33⟩
      · skip
        obtain ⟨_, _, ⟨T36, L36, k36, n36⟩, -, X36, ⟨Lc36, hQ36, l36, y36, z36⟩, st36⟩ := Jvm.LawKit.callS X15 hx (y := (⟨"com/example/neat_contract/neatcontract/document/Position", "endsLine", "([CII)Z"⟩ : MethodName)) hown (mvT hZ (hw _ (List.mem_of_getElem? (i := 7) rfl))) (mvT hZ (hw _ (List.mem_of_getElem? (i := 8) rfl))) (mvT hZ (hw _ (List.mem_of_getElem? (i := 9) rfl))) (mvT hZ (hw _ (List.mem_of_getElem? (i := 10) rfl))) (by decide) (backOf (W := 0) (rm2 l Z a0 hw [] b6 (own_idx p4 p5) (own_end p5) k6 [(nar .char (f1 p1)), (nar .char (f1 p2)), (nar .char (f1 p3))] (3 : Int32) h15 n0 Zs16 V15 (own_in53 p4 p5) (fun _ _ h => own_in122 p4 p5 h)) hZ (hw _ (List.mem_of_getElem? (i := 10) rfl)) (hw _ (List.mem_of_getElem? (i := 9) rfl)) (by decide) (by decide)) (g := (mkF m 122 #[.val (.int p1), .val (.int p2), .val (.int p3), .val (.int p4), .val (.int p5), .val (.ref b6), .val (.int (own_end p5)), .val (.int (own_idx p4 p5)), .val (.int (own_at [(nar .char (f1 p1)), (nar .char (f1 p2)), (nar .char (f1 p3))] (own_idx p4 p5))), .val (.int (1 : Int32))] [(.int (own_end p5)), (.int (own_idx p4 p5)), (.ref b6)])) rfl (by rw [hml]; rfl) (argsL := [(.ref b6), (.int (own_idx p4 p5)), (.int (own_end p5))]) (rest := []) (lenOf pd_0_1 rfl) rfl (by show 2 * 0 + _ ≤ _; exact Nat.le_of_eq rfl) (hb hby at_122) (fun _ _ => ⟨rfl, e15, (by decide : 1 + 0 ≤ _), (by decide : 3 + 0 ≤ _)⟩)
        dsimp only [Pt.U, Pt.locs, Pt.cells, Pt.slots] at X36 l36 y36 z36 st36 hQ36
        subst l36 y36 z36
        obtain ⟨rfl, N36q, e36⟩ := hQ36
        have N36 := Fr.app N15 N36q
        have pre37 : ∀ t, Steps p.tables e below (T36.setTop (mkF m 127 #[.val (.int p1), .val (.int p2), .val (.int p3), .val (.int p4), .val (.int p5), .val (.ref b6), .val (.int (own_end p5)), .val (.int (own_idx p4 p5)), .val (.int (own_at [(nar .char (f1 p1)), (nar .char (f1 p2)), (nar .char (f1 p3))] (own_idx p4 p5))), .val (.int (1 : Int32))] [(.int (1 : Int32)), (.int (f2 (own_idx p4 p5) (own_end p5) [(nar .char (f1 p1)), (nar .char (f1 p2)), (nar .char (f1 p3))]))])) t → Steps p.tables e below (s₁.setTop (entryFrame m #[(.int p1), (.int p2), (.int p3), (.int p4), (.int p5)] maxLocals)) t := fun t kt => by
          refine pre25 _ ?_
          show Steps p.tables e below (T15.setTop (mkF m 88 #[.val (.int p1), .val (.int p2), .val (.int p3), .val (.int p4), .val (.int p5), .val (.ref b6), .val (.int (own_end p5)), .val (.int (own_idx p4 p5)), .val (.int (own_at [(nar .char (f1 p1)), (nar .char (f1 p2)), (nar .char (f1 p3))] (own_idx p4 p5))), .unset] [(.int (own_end p5)), (.int ((own_idx p4 p5) + (1 : Int32)))])) _
          refine XS.icmpNo X15.here hx rfl (hb hby at_88) rfl (flt hc26).1 ?_
          show Steps p.tables e below (T15.setTop (mkF m 91 _ [])) _
          refine XS.iconst X15.here hx rfl (hb hby at_91) ?_
          show Steps p.tables e below (T15.setTop (mkF m 92 _ [(.int (1 : Int32))])) _
          refine XS.istore X15.here hx rfl (hb hby at_92) rfl (l' := #[.val (.int p1), .val (.int p2), .val (.int p3), .val (.int p4), .val (.int p5), .val (.ref b6), .val (.int (own_end p5)), .val (.int (own_idx p4 p5)), .val (.int (own_at [(nar .char (f1 p1)), (nar .char (f1 p2)), (nar .char (f1 p3))] (own_idx p4 p5))), .val (.int (1 : Int32))]) rfl ?_
          show Steps p.tables e below (T15.setTop (mkF m 94 _ [])) _
          refine XS.goto X15.here hx rfl (pc0 := 94) (pc' := 116) rfl (hb hby at_94) (by decide) (by decide) ?_
          show Steps p.tables e below (T15.setTop (mkF m 116 _ [])) _
          refine XS.aload X15.here hx rfl (hb hby at_116) rfl rfl ?_
          show Steps p.tables e below (T15.setTop (mkF m 118 _ [(.ref b6)])) _
          refine XS.iload X15.here hx rfl (hb hby at_118) rfl ?_
          show Steps p.tables e below (T15.setTop (mkF m 120 _ [(.int (own_idx p4 p5)), (.ref b6)])) _
          refine XS.iload X15.here hx rfl (hb hby at_120) rfl ?_
          show Steps p.tables e below (T15.setTop (mkF m 122 _ [(.int (own_end p5)), (.int (own_idx p4 p5)), (.ref b6)])) _
          refine st36 _ ?_
          show Steps p.tables e below (T36.setTop (mkF m 125 _ [(.int (f2 (own_idx p4 p5) (own_end p5) [(nar .char (f1 p1)), (nar .char (f1 p2)), (nar .char (f1 p3))]))])) _
          refine XS.iload X36.here hx rfl (hb hby at_125) rfl ?_
          exact kt
        by_cases hc38 : (f2 (own_idx p4 p5) (own_end p5) [(nar .char (f1 p1)), (nar .char (f1 p2)), (nar .char (f1 p3))]) = (1 : Int32)
        · skip
          obtain ⟨fs, hr, hrun, hended, hW, hsame⟩ := X36.leave (v := some (.int (1 : Int32))) (fun h => by rw [Bd.returns] at h; cases h) (by first | exact BodyLoose.notSynchronized Bd | exact Body.notSynchronized Bd)
          refine ⟨_, _, pre37 _ ?_, hrun, hended, _, _, rfl, ?_, ⟨_, rfl⟩, hW, hsame.mono (by decide) (by decide)⟩
          · show Steps p.tables e below (T36.setTop (mkF m 127 #[.val (.int p1), .val (.int p2), .val (.int p3), .val (.int p4), .val (.int p5), .val (.ref b6), .val (.int (own_end p5)), .val (.int (own_idx p4 p5)), .val (.int (own_at [(nar .char (f1 p1)), (nar .char (f1 p2)), (nar .char (f1 p3))] (own_idx p4 p5))), .val (.int (1 : Int32))] [(.int (1 : Int32)), (.int (f2 (own_idx p4 p5) (own_end p5) [(nar .char (f1 p1)), (nar .char (f1 p2)), (nar .char (f1 p3))]))])) _
            refine XS.icmpNo X36.here hx rfl (hb hby at_127) rfl (teq hc38).2 ?_
            show Steps p.tables e below (T36.setTop (mkF m 130 _ [])) _
            refine XS.iconst X36.here hx rfl (hb hby at_130) ?_
            show Steps p.tables e below (T36.setTop (mkF m 131 _ [(.int (1 : Int32))])) _
            refine XS.goto X36.here hx rfl (pc0 := 131) (pc' := 135) rfl (hb hby at_131) (by decide) (by decide) ?_
            show Steps p.tables e below (T36.setTop (mkF m 135 #[.val (.int p1), .val (.int p2), .val (.int p3), .val (.int p4), .val (.int p5), .val (.ref b6), .val (.int (own_end p5)), .val (.int (own_idx p4 p5)), .val (.int (own_at [(nar .char (f1 p1)), (nar .char (f1 p2)), (nar .char (f1 p3))] (own_idx p4 p5))), .val (.int (1 : Int32))] [(.int (1 : Int32))])) _
            exact retN X36 hx (t := .boolean) Bd.returns (by simp) (hb hby at_135) hr
          · show Q0 Z p1 p2 p3 p4 p5 h0 n0 _ T36.heap _
            rw [e36]
            exact ⟨congrArg (fun z => some (Value.int z)) (by rw [f0, if_neg hc19, if_pos hc24, if_neg hc26, if_pos hc38] : f0 p1 p2 p3 p4 p5 = (1 : Int32)).symm, N36⟩
        · skip
          obtain ⟨fs, hr, hrun, hended, hW, hsame⟩ := X36.leave (v := some (.int (0 : Int32))) (fun h => by rw [Bd.returns] at h; cases h) (by first | exact BodyLoose.notSynchronized Bd | exact Body.notSynchronized Bd)
          refine ⟨_, _, pre37 _ ?_, hrun, hended, _, _, rfl, ?_, ⟨_, rfl⟩, hW, hsame.mono (by decide) (by decide)⟩
          · show Steps p.tables e below (T36.setTop (mkF m 127 #[.val (.int p1), .val (.int p2), .val (.int p3), .val (.int p4), .val (.int p5), .val (.ref b6), .val (.int (own_end p5)), .val (.int (own_idx p4 p5)), .val (.int (own_at [(nar .char (f1 p1)), (nar .char (f1 p2)), (nar .char (f1 p3))] (own_idx p4 p5))), .val (.int (1 : Int32))] [(.int (1 : Int32)), (.int (f2 (own_idx p4 p5) (own_end p5) [(nar .char (f1 p1)), (nar .char (f1 p2)), (nar .char (f1 p3))]))])) _
            refine XS.icmpYes X36.here hx rfl (pc0 := 127) (pc' := 134) rfl (hb hby at_127) rfl (feq hc38).2 (by decide) (by decide) ?_
            show Steps p.tables e below (T36.setTop (mkF m 134 _ [])) _
            refine XS.iconst X36.here hx rfl (hb hby at_134) ?_
            show Steps p.tables e below (T36.setTop (mkF m 135 #[.val (.int p1), .val (.int p2), .val (.int p3), .val (.int p4), .val (.int p5), .val (.ref b6), .val (.int (own_end p5)), .val (.int (own_idx p4 p5)), .val (.int (own_at [(nar .char (f1 p1)), (nar .char (f1 p2)), (nar .char (f1 p3))] (own_idx p4 p5))), .val (.int (1 : Int32))] [(.int (0 : Int32))])) _
            exact retN X36 hx (t := .boolean) Bd.returns (by simp) (hb hby at_135) hr
          · show Q0 Z p1 p2 p3 p4 p5 h0 n0 _ T36.heap _
            rw [e36]
            exact ⟨congrArg (fun z => some (Value.int z)) (by rw [f0, if_neg hc19, if_pos hc24, if_neg hc26, if_neg hc38] : f0 p1 p2 p3 p4 p5 = (0 : Int32)).symm, N36⟩
    · skip
      obtain ⟨_, _, ⟨T39, L39, k39, n39⟩, -, X39, ⟨Lc39, hQ39, l39, y39, z39⟩, st39⟩ := Jvm.LawKit.callS X15 hx (y := (⟨"com/example/neat_contract/neatcontract/document/Position", "endsLine", "([CII)Z"⟩ : MethodName)) hown (mvT hZ (hw _ (List.mem_of_getElem? (i := 7) rfl))) (mvT hZ (hw _ (List.mem_of_getElem? (i := 8) rfl))) (mvT hZ (hw _ (List.mem_of_getElem? (i := 9) rfl))) (mvT hZ (hw _ (List.mem_of_getElem? (i := 10) rfl))) (by decide) (backOf (W := 0) (rm2 l Z a0 hw [] b6 (own_idx p4 p5) (own_end p5) k6 [(nar .char (f1 p1)), (nar .char (f1 p2)), (nar .char (f1 p3))] (3 : Int32) h15 n0 Zs16 V15 (own_in53 p4 p5) (fun _ _ h => own_in122 p4 p5 h)) hZ (hw _ (List.mem_of_getElem? (i := 10) rfl)) (hw _ (List.mem_of_getElem? (i := 9) rfl)) (by decide) (by decide)) (g := (mkF m 122 #[.val (.int p1), .val (.int p2), .val (.int p3), .val (.int p4), .val (.int p5), .val (.ref b6), .val (.int (own_end p5)), .val (.int (own_idx p4 p5)), .val (.int (own_at [(nar .char (f1 p1)), (nar .char (f1 p2)), (nar .char (f1 p3))] (own_idx p4 p5))), .val (.int (0 : Int32))] [(.int (own_end p5)), (.int (own_idx p4 p5)), (.ref b6)])) rfl (by rw [hml]; rfl) (argsL := [(.ref b6), (.int (own_idx p4 p5)), (.int (own_end p5))]) (rest := []) (lenOf pd_0_1 rfl) rfl (by show 2 * 0 + _ ≤ _; exact Nat.le_of_eq rfl) (hb hby at_122) (fun _ _ => ⟨rfl, e15, (by decide : 1 + 0 ≤ _), (by decide : 3 + 0 ≤ _)⟩)
      dsimp only [Pt.U, Pt.locs, Pt.cells, Pt.slots] at X39 l39 y39 z39 st39 hQ39
      subst l39 y39 z39
      obtain ⟨rfl, N39q, e39⟩ := hQ39
      have N39 := Fr.app N15 N39q
      have pre40 : ∀ t, Steps p.tables e below (T39.setTop (mkF m 127 #[.val (.int p1), .val (.int p2), .val (.int p3), .val (.int p4), .val (.int p5), .val (.ref b6), .val (.int (own_end p5)), .val (.int (own_idx p4 p5)), .val (.int (own_at [(nar .char (f1 p1)), (nar .char (f1 p2)), (nar .char (f1 p3))] (own_idx p4 p5))), .val (.int (0 : Int32))] [(.int (0 : Int32)), (.int (f2 (own_idx p4 p5) (own_end p5) [(nar .char (f1 p1)), (nar .char (f1 p2)), (nar .char (f1 p3))]))])) t → Steps p.tables e below (s₁.setTop (entryFrame m #[(.int p1), (.int p2), (.int p3), (.int p4), (.int p5)] maxLocals)) t := fun t kt => by
        refine pre23 _ ?_
        show Steps p.tables e below (T15.setTop (mkF m 73 #[.val (.int p1), .val (.int p2), .val (.int p3), .val (.int p4), .val (.int p5), .val (.ref b6), .val (.int (own_end p5)), .val (.int (own_idx p4 p5)), .val (.int (own_at [(nar .char (f1 p1)), (nar .char (f1 p2)), (nar .char (f1 p3))] (own_idx p4 p5))), .unset] [(.int (13 : Int32)), (.int (own_at [(nar .char (f1 p1)), (nar .char (f1 p2)), (nar .char (f1 p3))] (own_idx p4 p5)))])) _
        refine XS.icmpNo X15.here hx rfl (hb hby at_73) rfl (feq hc24).1 ?_
        show Steps p.tables e below (T15.setTop (mkF m 76 _ [])) _
        refine XS.iconst X15.here hx rfl (hb hby at_76) ?_
        show Steps p.tables e below (T15.setTop (mkF m 77 _ [(.int (0 : Int32))])) _
        refine XS.istore X15.here hx rfl (hb hby at_77) rfl (l' := #[.val (.int p1), .val (.int p2), .val (.int p3), .val (.int p4), .val (.int p5), .val (.ref b6), .val (.int (own_end p5)), .val (.int (own_idx p4 p5)), .val (.int (own_at [(nar .char (f1 p1)), (nar .char (f1 p2)), (nar .char (f1 p3))] (own_idx p4 p5))), .val (.int (0 : Int32))]) rfl ?_
        show Steps p.tables e below (T15.setTop (mkF m 79 _ [])) _
        refine XS.goto X15.here hx rfl (pc0 := 79) (pc' := 116) rfl (hb hby at_79) (by decide) (by decide) ?_
        show Steps p.tables e below (T15.setTop (mkF m 116 _ [])) _
        refine XS.aload X15.here hx rfl (hb hby at_116) rfl rfl ?_
        show Steps p.tables e below (T15.setTop (mkF m 118 _ [(.ref b6)])) _
        refine XS.iload X15.here hx rfl (hb hby at_118) rfl ?_
        show Steps p.tables e below (T15.setTop (mkF m 120 _ [(.int (own_idx p4 p5)), (.ref b6)])) _
        refine XS.iload X15.here hx rfl (hb hby at_120) rfl ?_
        show Steps p.tables e below (T15.setTop (mkF m 122 _ [(.int (own_end p5)), (.int (own_idx p4 p5)), (.ref b6)])) _
        refine st39 _ ?_
        show Steps p.tables e below (T39.setTop (mkF m 125 _ [(.int (f2 (own_idx p4 p5) (own_end p5) [(nar .char (f1 p1)), (nar .char (f1 p2)), (nar .char (f1 p3))]))])) _
        refine XS.iload X39.here hx rfl (hb hby at_125) rfl ?_
        exact kt
      by_cases hc41 : (f2 (own_idx p4 p5) (own_end p5) [(nar .char (f1 p1)), (nar .char (f1 p2)), (nar .char (f1 p3))]) = (0 : Int32)
      · skip
        obtain ⟨fs, hr, hrun, hended, hW, hsame⟩ := X39.leave (v := some (.int (1 : Int32))) (fun h => by rw [Bd.returns] at h; cases h) (by first | exact BodyLoose.notSynchronized Bd | exact Body.notSynchronized Bd)
        refine ⟨_, _, pre40 _ ?_, hrun, hended, _, _, rfl, ?_, ⟨_, rfl⟩, hW, hsame.mono (by decide) (by decide)⟩
        · show Steps p.tables e below (T39.setTop (mkF m 127 #[.val (.int p1), .val (.int p2), .val (.int p3), .val (.int p4), .val (.int p5), .val (.ref b6), .val (.int (own_end p5)), .val (.int (own_idx p4 p5)), .val (.int (own_at [(nar .char (f1 p1)), (nar .char (f1 p2)), (nar .char (f1 p3))] (own_idx p4 p5))), .val (.int (0 : Int32))] [(.int (0 : Int32)), (.int (f2 (own_idx p4 p5) (own_end p5) [(nar .char (f1 p1)), (nar .char (f1 p2)), (nar .char (f1 p3))]))])) _
          refine XS.icmpNo X39.here hx rfl (hb hby at_127) rfl (teq hc41).2 ?_
          show Steps p.tables e below (T39.setTop (mkF m 130 _ [])) _
          refine XS.iconst X39.here hx rfl (hb hby at_130) ?_
          show Steps p.tables e below (T39.setTop (mkF m 131 _ [(.int (1 : Int32))])) _
          refine XS.goto X39.here hx rfl (pc0 := 131) (pc' := 135) rfl (hb hby at_131) (by decide) (by decide) ?_
          show Steps p.tables e below (T39.setTop (mkF m 135 #[.val (.int p1), .val (.int p2), .val (.int p3), .val (.int p4), .val (.int p5), .val (.ref b6), .val (.int (own_end p5)), .val (.int (own_idx p4 p5)), .val (.int (own_at [(nar .char (f1 p1)), (nar .char (f1 p2)), (nar .char (f1 p3))] (own_idx p4 p5))), .val (.int (0 : Int32))] [(.int (1 : Int32))])) _
          exact retN X39 hx (t := .boolean) Bd.returns (by simp) (hb hby at_135) hr
        · show Q0 Z p1 p2 p3 p4 p5 h0 n0 _ T39.heap _
          rw [e39]
          exact ⟨congrArg (fun z => some (Value.int z)) (by rw [f0, if_neg hc19, if_neg hc24, if_pos hc41] : f0 p1 p2 p3 p4 p5 = (1 : Int32)).symm, N39⟩
      · skip
        obtain ⟨fs, hr, hrun, hended, hW, hsame⟩ := X39.leave (v := some (.int (0 : Int32))) (fun h => by rw [Bd.returns] at h; cases h) (by first | exact BodyLoose.notSynchronized Bd | exact Body.notSynchronized Bd)
        refine ⟨_, _, pre40 _ ?_, hrun, hended, _, _, rfl, ?_, ⟨_, rfl⟩, hW, hsame.mono (by decide) (by decide)⟩
        · show Steps p.tables e below (T39.setTop (mkF m 127 #[.val (.int p1), .val (.int p2), .val (.int p3), .val (.int p4), .val (.int p5), .val (.ref b6), .val (.int (own_end p5)), .val (.int (own_idx p4 p5)), .val (.int (own_at [(nar .char (f1 p1)), (nar .char (f1 p2)), (nar .char (f1 p3))] (own_idx p4 p5))), .val (.int (0 : Int32))] [(.int (0 : Int32)), (.int (f2 (own_idx p4 p5) (own_end p5) [(nar .char (f1 p1)), (nar .char (f1 p2)), (nar .char (f1 p3))]))])) _
          refine XS.icmpYes X39.here hx rfl (pc0 := 127) (pc' := 134) rfl (hb hby at_127) rfl (feq hc41).2 (by decide) (by decide) ?_
          show Steps p.tables e below (T39.setTop (mkF m 134 _ [])) _
          refine XS.iconst X39.here hx rfl (hb hby at_134) ?_
          show Steps p.tables e below (T39.setTop (mkF m 135 #[.val (.int p1), .val (.int p2), .val (.int p3), .val (.int p4), .val (.int p5), .val (.ref b6), .val (.int (own_end p5)), .val (.int (own_idx p4 p5)), .val (.int (own_at [(nar .char (f1 p1)), (nar .char (f1 p2)), (nar .char (f1 p3))] (own_idx p4 p5))), .val (.int (0 : Int32))] [(.int (0 : Int32))])) _
          exact retN X39 hx (t := .boolean) Bd.returns (by simp) (hb hby at_135) hr
        · show Q0 Z p1 p2 p3 p4 p5 h0 n0 _ T39.heap _
          rw [e39]
          exact ⟨congrArg (fun z => some (Value.int z)) (by rw [f0, if_neg hc19, if_neg hc24, if_neg hc41] : f0 p1 p2 p3 p4 p5 = (0 : Int32)).symm, N39⟩
theorem own_plain (p1 p2 p3 p4 p5 : Int32) : f0 p1 p2 p3 p4 p5 = 1 := by
  have hne := own_lt_of_ne p4 p5
  have hlt : own_idx p4 p5 + (1 : Int32) < own_end p5 → ¬ own_idx p4 p5 + (1 : Int32) = own_end p5 := fun h q => by
    rw [q, Int32.lt_iff_toInt_lt] at h
    omega
  unfold f0 f2
  generalize [(nar .char (f1 p1)), (nar .char (f1 p2)), (nar .char (f1 p3))] = vs at *
  generalize own_idx p4 p5 + (1 : Int32) = j at *
  generalize own_idx p4 p5 = i at *
  generalize own_end p5 = n at *
  (repeat' split) <;> simp_all
set_option maxRecDepth 65536 in
set_option maxHeartbeats 40000000 in
theorem comes_1 {Post : Tables → Env → Array Value → State → Outcome → State → Prop} (hpost : ∀ tb e args s v u, (limb_1_1.after args s (.returned v) u = true ∧ limb_1_2.after args s (.returned v) u = true ∧ True) → FrameEnd s (.returned v) u (Jvm.fieldLocs frame_1_writes args s ++ Jvm.arrayLocs frame_1_arrays args s ++ Jvm.staticLocs frame_1_statics s) 16 128 → Post tb e args s (.returned v) u) :
    ArmFor flags0 classFile x code maxLocals ret World_1 tables_1 room_1 Calls_1 rest_1 Pre_1 Post := by
  intro l hfl _ _ p e ha hc hk s m args below hf hA hF happ hP
  obtain ⟨hcalls, hrest, hpre⟩ := hP
  obtain ⟨-, -, -, hnamed, -, -, -, hat⟩ := (Spec.applies_iff hf).mp happ
  obtain ⟨hg, hn⟩ := and_e (Cond.before_iff.mp (show (Jvm.Cond.and given_1 narrow_1).before args s = true from hpre))
  obtain ⟨gc, hg⟩ := and_e hg
  obtain ⟨gi0, hg⟩ := and_e hg
  obtain ⟨gi1, hg⟩ := and_e hg
  obtain ⟨gi2, hg⟩ := and_e hg
  obtain ⟨gi3, hg⟩ := and_e hg
  obtain ⟨w0, w1, w2, w3, w4, rfl⟩ : ∃ w0 w1 w2 w3 w4 : Value, args = #[w0, w1, w2, w3, w4] := by
    have hs : args.size = 5 := by simpa [Cond.value, given_1] using gc
    obtain ⟨L⟩ := args
    match L, hs with
    | [w0, w1, w2, w3, w4], _ => exact ⟨w0, w1, w2, w3, w4, rfl⟩
  have hw := fun d (hd : d ∈ tables_1) => atoms_spec (ws := Jvm.Cond.code x code maxLocals ret :: tables_1) hat d (List.mem_cons_of_mem _ hd)
  obtain ⟨i0, ei0⟩ := is_v gi0
  obtain rfl : w0 = (.int i0) := Option.some.inj ei0
  obtain ⟨i1, ei1⟩ := is_v gi1
  obtain rfl : w1 = (.int i1) := Option.some.inj ei1
  obtain ⟨i2, ei2⟩ := is_v gi2
  obtain rfl : w2 = (.int i2) := Option.some.inj ei2
  obtain ⟨i3, ei3⟩ := is_v gi3
  obtain rfl : w3 = (.int i3) := Option.some.inj ei3
  obtain ⟨i4, ei4⟩ := is_v hg
  obtain rfl : w4 = (.int i4) := Option.some.inj ei4
  obtain ⟨n, o, h1, h2, h3, vr, L, rfl, ⟨hvr, N⟩, hq⟩ := rm0 l s _ hw tables_1 i0 i1 i2 i3 i4 s.heap s.heap.size (Nat.le_refl _)  p e ha hc hk s m _ below hf ((Spec.applies_iff_loose hf).mp happ).1 ⟨rfl, State.Warmed39.refl s, rfl⟩ trivial
  have hpl : f0 i0 i1 i2 i3 i4 = 1 := own_plain i0 i1 i2 i3 i4 
  rw [hpl] at hvr
  subst hvr
  refine ⟨n, _, h1, h2, h3, hpost _ _ _ _ _ _ ⟨Cond.after_iff.mpr rfl, Cond.after_iff.mpr (eq_i res_at (Term.int_eval (1)) rfl), trivial⟩ ⟨hq.1, hq.2.1, (hq.2.2.sift fun y hy => Or.inr (N y hy)).mono (by decide) (by decide)⟩⟩
theorem main_1_1 : Claimed_1_1 := comes_1 fun _ _ _ _ _ _ h hF => ⟨h.1, hF⟩
theorem main_1_2 : Claimed_1_2 := comes_1 fun _ _ _ _ _ _ h hF => ⟨h.2.1, hF⟩

end Jvm.Pilot.@@N@@
namespace Jvm.Pilot.@@N@@
open Jvm Jvm.ClassFile Sem Op Lib Jvm.Free Jvm.Stand Jvm.Pilot.@@N@@.Jvm.D
/-! MADE BY PROGRAM (witnessworld.py) out of the Statement's table words and the real class files: 12 classes; the members and pool entries that the words name. The judged class is class 1, her method 2. -/
namespace start1
open Jvm.ClassFile
def u (s : String) : CpInfo := .utf8 (stringToUtf16 s)
/-- a pool by its gaps: so many unusable entries, then the entry; so many at the end -/
def gap : Nat → List CpInfo → List CpInfo
  | 0, r => r
  | n + 1, r => .unusable :: gap n r
def poolList (es : List (Nat × CpInfo)) (last : Nat) : List CpInfo := es.foldr (fun e r => gap e.1 (e.2 :: r)) (gap last [])
def pool (es : List (Nat × CpInfo)) (last : Nat) : Array CpInfo := ⟨poolList es last⟩
def fileOf (pool : Array CpInfo) (this : Nat) (attrs : Array Attribute := #[]) (ms : Array MethodInfo := #[]) (fl : Nat := 33) (sup : Nat := 0) (ifs : Array Nat := #[]) (fds : Array FieldInfo := #[]) : ClassFile where
  minorVersion := 0
  majorVersion := 65
  constantPool := pool
  accessFlags := fl
  thisClass := this
  superClass := sup
  interfaces := ifs
  fields := fds
  methods := ms
  attributes := attrs
def plain (name : String) (sup : Option ClassId) : Class where
  name := name
  kind := .ordinary
  loader := none
  accessFlags := 33
  super := sup
  interfaces := #[]
  cf := none
  fields := #[]
  methods := #[]
  instanceTypes := #[]
  staticTypes := #[]
  resolved := #[]
  callSites := []
  init := .initialized
  statics := none
  mirror := none

def pool0 : Array CpInfo := pool [(5, u "<init>"), (0, u "()V"), (1, .class_ 10), (1, u "java/lang/Object")] 113

def k0m0 : Method := { name := "<init>", desc := "()V", sig := { parameters := [], returnType := none }, accessFlags := 1, code := none }
/-- java/lang/Object -/
def k0 : Class := { plain "java/lang/Object" none with
  accessFlags := 33
  interfaces := #[]
  cf := some (fileOf pool0 8 #[] #[{ accessFlags := 1, nameIndex := 5, descriptorIndex := 6, attributes := #[] }] 33 0 #[] #[])
  fields := #[]
  methods := #[k0m0]
  instanceTypes := #[]
  staticTypes := #[]
  resolved := Array.replicate 124 none
  statics := none }

def pool1 : Array CpInfo := pool [(2, .class_ 4), (1, u "java/lang/Object"), (0, u "<init>"), (0, u "()V"), (0, .integer 65535), (0, .methodref 9 10), (0, .class_ 11), (0, .nameAndType 12 13), (0, u "com/example/neat_contract/neatcontract/document/PositionEndsLinePinLaw"), (0, u "drawn"), (0, u "(I)C"), (0, .integer 2147483647), (0, .methodref 16 17), (0, .class_ 18), (0, .nameAndType 19 20), (0, u "com/example/neat_contract/neatcontract/document/Position"), (0, u "endsLine"), (0, u "([CII)Z"), (3, u "law"), (0, u "(IIIII)Z")] 4

def k1m0 : Method := { name := "<init>", desc := "()V", sig := { parameters := [], returnType := none }, accessFlags := 1, code := none }
def k1c1 : Code := { maxStack := 2, maxLocals := 2, code := method_2_code, exceptionTable := #[], attributes := #[] }
def k1m1 : Method := { name := "drawn", desc := "(I)C", sig := { parameters := [.int], returnType := some .char }, accessFlags := 10, code := some k1c1 }
def k1c2 : Code := { maxStack := 3, maxLocals := 10, code := code, exceptionTable := #[], attributes := #[] }
def k1m2 : Method := { name := "law", desc := "(IIIII)Z", sig := { parameters := [.int, .int, .int, .int, .int], returnType := some .boolean }, accessFlags := 9, code := some k1c2 }
/-- com/example/neat_contract/neatcontract/document/PositionEndsLinePinLaw -/
def k1 : Class := { plain "com/example/neat_contract/neatcontract/document/PositionEndsLinePinLaw" (some 0) with
  accessFlags := 49
  interfaces := #[]
  cf := some (fileOf pool1 9 #[] #[{ accessFlags := 1, nameIndex := 5, descriptorIndex := 6, attributes := #[] }, { accessFlags := 10, nameIndex := 12, descriptorIndex := 13, attributes := #[] }, { accessFlags := 9, nameIndex := 24, descriptorIndex := 25, attributes := #[] }] 49 2 #[] #[])
  fields := #[]
  methods := #[k1m0, k1m1, k1m2]
  instanceTypes := #[]
  staticTypes := #[]
  resolved := Array.replicate 30 none
  statics := none }

def pool2 : Array CpInfo := pool [(1, .class_ 2), (0, u "java/lang/Comparable"), (0, .class_ 4), (0, u "java/lang/Object")] 7

/-- java/lang/Comparable -/
def k2 : Class := { plain "java/lang/Comparable" (some 0) with
  accessFlags := 1537
  interfaces := #[]
  cf := some (fileOf pool2 1 #[] #[] 1537 3 #[] #[])
  fields := #[]
  methods := #[]
  instanceTypes := #[]
  staticTypes := #[]
  resolved := Array.replicate 12 none
  statics := none }

def pool3 : Array CpInfo := pool [(2, .class_ 4), (1, u "java/lang/Object"), (12, .class_ 19), (1, u "com/example/neat_contract/neatcontract/document/Position"), (0, u "line"), (0, u "I"), (2, u "column"), (35, .class_ 61), (0, u "java/lang/Comparable"), (0, u "BYTE_ORDER_MARK"), (0, u "C"), (9, u "endsLine"), (0, u "([CII)Z")] 31

def k3c0 : Code := { maxStack := 3, maxLocals := 4, code := prog_47_method_9_code, exceptionTable := #[], attributes := #[] }
def k3m0 : Method := { name := "endsLine", desc := "([CII)Z", sig := { parameters := [(.array .char), .int, .int], returnType := some .boolean }, accessFlags := 8, code := some k3c0 }
/-- com/example/neat_contract/neatcontract/document/Position -/
def k3 : Class := { plain "com/example/neat_contract/neatcontract/document/Position" (some 0) with
  accessFlags := 33
  interfaces := #[2]
  cf := some (fileOf pool3 17 #[] #[{ accessFlags := 8, nameIndex := 73, descriptorIndex := 74, attributes := #[] }] 33 2 #[60] #[{ accessFlags := 26, nameIndex := 62, descriptorIndex := 63, attributes := #[] }, { accessFlags := 18, nameIndex := 20, descriptorIndex := 21, attributes := #[] }, { accessFlags := 18, nameIndex := 24, descriptorIndex := 21, attributes := #[] }])
  fields := #[{ name := "BYTE_ORDER_MARK", type := .char, accessFlags := 26, slot := 0, constantValue := 0 }, { name := "line", type := .int, accessFlags := 18, slot := 0, constantValue := 0 }, { name := "column", type := .int, accessFlags := 18, slot := 1, constantValue := 0 }]
  methods := #[k3m0]
  instanceTypes := #[.int, .int]
  staticTypes := #[.char]
  resolved := Array.replicate 106 none
  statics := none }

def pool4 : Array CpInfo := pool [(1, u "java/lang/Cloneable"), (0, .class_ 1), (0, u "java/lang/Object"), (0, .class_ 3)] 3

/-- java/lang/Cloneable -/
def k4 : Class := { plain "java/lang/Cloneable" (some 0) with
  accessFlags := 1537
  interfaces := #[]
  cf := some (fileOf pool4 2 #[] #[] 1537 4 #[] #[])
  fields := #[]
  methods := #[]
  instanceTypes := #[]
  staticTypes := #[]
  resolved := Array.replicate 8 none
  statics := none }

def pool5 : Array CpInfo := pool [(1, u "java/io/Serializable"), (0, .class_ 1), (0, u "java/lang/Object"), (0, .class_ 3)] 3

/-- java/io/Serializable -/
def k5 : Class := { plain "java/io/Serializable" (some 0) with
  accessFlags := 1537
  interfaces := #[]
  cf := some (fileOf pool5 2 #[] #[] 1537 4 #[] #[])
  fields := #[]
  methods := #[]
  instanceTypes := #[]
  staticTypes := #[]
  resolved := Array.replicate 8 none
  statics := none }

/-- the primitive byte -/
def k6 : Class := { plain "byte" none with kind := .primitive 'B', accessFlags := 0x411 }
/-- [B -/
def k7 : Class := { plain "[B" (some 0) with kind := .array 6 .byte, interfaces := #[4, 5], accessFlags := 1041 }

/-- the primitive char -/
def k8 : Class := { plain "char" none with kind := .primitive 'C', accessFlags := 0x411 }
/-- [C -/
def k9 : Class := { plain "[C" (some 0) with kind := .array 8 .char, interfaces := #[4, 5], accessFlags := 1041 }

/-- the primitive int -/
def k10 : Class := { plain "int" none with kind := .primitive 'I', accessFlags := 0x411 }
/-- [I -/
def k11 : Class := { plain "[I" (some 0) with kind := .array 10 .int, interfaces := #[4, 5], accessFlags := 1041 }

def heap : Heap := #[]
def classes : Array Class := #[k0, k1, k2, k3, k4, k5, k6, k7, k8, k9, k10, k11]
def interned : List (Array UInt16 × Addr) := []
def slotsUsed : Nat := 0
def theMethod : MethodId := ⟨1, 2⟩
def args0 : Array Value := #[.int 5, .int 7, .int 9, .int 2, .int 1]
def aboutOver (below : List Frame) : State where
  vm := { classes := classes, interned := interned.toArray }
  heap := heap
  slotsUsed := slotsUsed
  threads := #[{ frames := .invoking theMethod args0 :: below }]
def below0 : List Frame := [.native { method := ⟨0, 0⟩, args := #[] }]
def about1 : State := aboutOver below0
def p0 : Program := .bare "" "" ""
def e0 : Env := launch0.env 0 0 0
theorem w_frames : about1.frames = Frame.invoking theMethod args0 :: below0 := rfl
set_option maxRecDepth 65536 in
theorem w_args : argsFit about1.vm theMethod args0 = true := by decide +kernel
set_option maxRecDepth 65536 in
theorem w_heap : heapFits about1 = true := by decide +kernel
set_option maxRecDepth 65536 in
theorem w_runnable : about1.curStatus? = some .runnable := by decide +kernel
set_option maxRecDepth 65536 in
theorem w_alone : about1.alone = true := by decide +kernel
set_option maxRecDepth 65536 in
theorem w_named : about1.methodNamed? x = some theMethod := by decide +kernel
set_option maxRecDepth 65536 in
theorem w_hears : about1.hears theMethod below0 = true := by decide +kernel
set_option maxRecDepth 65536 in
theorem w_ripe : about1.ripe theMethod args0 below0 = true := by decide +kernel
theorem w_running : about1.status = .running := rfl
set_option maxRecDepth 65536 in
theorem w_room : about1.hasRoom e0.platform room_1 = true :=
  launch0.hasRoom_least _ room_1 (by decide +kernel) (by decide +kernel) (by decide +kernel) (by decide +kernel) (by decide +kernel) (by decide +kernel)
theorem allAtoms_all (ts : List Jvm.Cond) (a : Array Jvm.Value) (st : Jvm.State) : (allAtoms ts).before a st = ts.all (fun c => c.before a st) := by
  induction ts with
  | nil => rfl
  | cons c t ih =>
    show (Jvm.Cond.and c (allAtoms t)).before a st = _
    rw [Jvm.Cond.before_and, ih, List.all_cons]
def words1 : List Jvm.Cond := Jvm.Cond.code x code maxLocals ret :: tables_1
/-- a 'code' word, met by the world's own term for the bytes: nothing is compared byte by byte -/
theorem code_word {y : MethodName} {bytes : ByteArray} {mx : Nat} {rt : Option FieldType} {a : Array Value} {s : State} {m : MethodId} {meth : Method} {c : Code} (h1 : s.methodNamed? y = some m) (h2 : s.vm.method? m = some meth) (h3 : meth.code = some c) (h4 : c.code = bytes)
    (h5 : (c.maxLocals == mx && c.exceptionTable.isEmpty && decide (c.maxStack ≤ mostOperands) && decide (meth.sig.returnType = rt) && !meth.locks && decide (parseMethodDescriptor y.desc = some meth.sig)) = true) : (Jvm.Cond.code y bytes mx rt).before a s = true := by
  simp only [Bool.and_eq_true, beq_iff_eq, Bool.not_eq_true', decide_eq_true_eq] at h5
  obtain ⟨⟨⟨⟨⟨g1, g2⟩, g3⟩, g4⟩, g5⟩, g6⟩ := h5
  simp [Cond.before, Cond.holds, Cond.value, h1, h2, h3, h4, g1, g2, g3, g4, g5, g6]
def isCode : Jvm.Cond → Bool
  | .code _ _ _ _ => true
  | _ => false
theorem all_split {L : List Jvm.Cond} {P : Jvm.Cond → Bool} (h1 : L.all (fun c => isCode c || P c) = true) (h2 : ∀ c ∈ L.filter isCode, P c = true) : L.all P = true := by
  refine List.all_eq_true.mpr fun c hc => ?_
  have h := List.all_eq_true.mp h1 c hc
  rcases Bool.eq_false_or_eq_true (isCode c) with hi | hi
  · exact h2 c (List.mem_filter.mpr ⟨hc, hi⟩)
  · simpa [hi] using h
set_option maxRecDepth 65536 in
theorem w_c0 : (Jvm.Cond.code x code maxLocals ret).before args0 about1 = true := code_word (m := ⟨1, 2⟩) (meth := k1m2) (c := k1c2) (by decide +kernel) rfl rfl rfl (by decide +kernel)
set_option maxRecDepth 65536 in
theorem w_c1 : (Jvm.Cond.code ({ cls := "com/example/neat_contract/neatcontract/document/PositionEndsLinePinLaw", name := "drawn", desc := "(I)C" } : Jvm.MethodName) method_2_code (2 : Nat) (Option.some Jvm.ClassFile.FieldType.char)).before args0 about1 = true := code_word (m := ⟨1, 1⟩) (meth := k1m1) (c := k1c1) (by decide +kernel) rfl rfl rfl (by decide +kernel)
set_option maxRecDepth 65536 in
theorem w_c2 : (Jvm.Cond.code ({ cls := "com/example/neat_contract/neatcontract/document/Position", name := "endsLine", desc := "([CII)Z" } : Jvm.MethodName) prog_47_method_9_code (4 : Nat) (Option.some Jvm.ClassFile.FieldType.boolean)).before args0 about1 = true := code_word (m := ⟨3, 0⟩) (meth := k3m0) (c := k3c0) (by decide +kernel) rfl rfl rfl (by decide +kernel)
def codes1 : List Jvm.Cond := [Jvm.Cond.code x code maxLocals ret, Jvm.Cond.code ({ cls := "com/example/neat_contract/neatcontract/document/PositionEndsLinePinLaw", name := "drawn", desc := "(I)C" } : Jvm.MethodName) method_2_code (2 : Nat) (Option.some Jvm.ClassFile.FieldType.char), Jvm.Cond.code ({ cls := "com/example/neat_contract/neatcontract/document/Position", name := "endsLine", desc := "([CII)Z" } : Jvm.MethodName) prog_47_method_9_code (4 : Nat) (Option.some Jvm.ClassFile.FieldType.boolean)]
set_option maxRecDepth 65536 in
theorem codes_eq : words1.filter isCode = codes1 := rfl
theorem w_codes : ∀ c ∈ words1.filter isCode, c.before args0 about1 = true := by
  rw [codes_eq]
  intro c hc
  simp only [codes1, List.mem_cons, List.not_mem_nil, or_false] at hc
  rcases hc with rfl | rfl | rfl
  · exact w_c0
  · exact w_c1
  · exact w_c2
set_option maxRecDepth 65536 in
theorem w_t1 : words1.all (fun c => isCode c || c.before args0 about1) = true := by decide +kernel
theorem w_tables : (allAtoms (Jvm.Cond.code x code maxLocals ret :: tables_1)).before args0 about1 = true := by
  rw [allAtoms_all]
  show words1.all (fun c => c.before args0 about1) = true
  refine all_split ?_ w_codes
  rw [w_t1]
set_option maxRecDepth 65536 in
theorem w_case : (Jvm.Cond.and given_1 narrow_1).before args0 about1 = true := by decide +kernel
theorem w_applies : (headSpec (Jvm.Cond.code x code maxLocals ret :: tables_1) room_1).applies x e0.platform about1 = true :=
  (Spec.applies_iff w_frames).mpr ⟨w_running, w_runnable, w_alone, w_named, w_hears, w_ripe, w_room, w_tables⟩
theorem atStart : AtStart classFile x code maxLocals ret World_1 tables_1 room_1 Calls_1 rest_1 Pre_1 launch0 p0 e0 about1 theMethod args0 below0 :=
  ⟨lists_1, trivial, launch0.admits_env _ _ _, launch0.least_env, fairChoices_fair.cas, fairChoices_fair.clock, w_frames, w_args, w_heap, w_applies, trivial, trivial, w_case⟩
end start1
theorem witness_1 : WitnessClaimed_1 := ⟨start1.p0, start1.e0, start1.about1, start1.theMethod, start1.args0, start1.below0, start1.atStart⟩
end Jvm.Pilot.@@N@@
