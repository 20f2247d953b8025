import JvmDerived
import JvmDerived.Pilot.@@N@@Statement
import JvmDerived.Pilot.@@N@@Code
set_option linter.unusedVariables false
set_option linter.unusedSimpArgs false
@@BLOCK:NumsL.lean.txt@@
namespace Jvm.RoadKit
open Sem ClassFile Op Lib Jvm.Stand Jvm.Free Jvm.LawKit
section New
variable {p : Program} {l : Launch} {e : Env} {R : Room} {s : State} {m : MethodId} {args : Array Value} {below : List Frame} {meth : Method} {c : Code} {T : State} {locs : List Loc} {cells slots : Nat}
theorem retI (X : Stand p l e R s m args below meth c T locs cells slots) (hx : p.tables.exec = Jvm.exec) {pc : Nat} {Ls : Array Slot} {z : Int32} {rest : List Value} (hret : meth.sig.returnType = some .int) (hd : decode c.code pc = .ok (.ireturn, 1)) {fs : List Frame}
    (hl : ∀ (f : JFrame) (acts : List Action), f.method = m → f.locked = none → f.entered = [] → (doReturn e (T.setTop f) acts (some (.int z))).1 = T.setFrames fs) : Steps p.tables e below (T.setTop (mkF m pc Ls (.int z :: rest))) (T.setFrames fs) := by
  have hm' : T.vm.method? m = some meth := X.method'
  have hn : narrow .int (.int z) = .int z := rfl
  show Steps p.tables e below (T.setTop { method := m, pc := pc, locals := Ls, stack := _ :: rest, locked := none }) _
  jvm_step X.here [X.here.top, hx, hd, hm', hret, hn]
  first | (intro acts; rw [hl _ acts rfl rfl rfl]) | rw [hl _ _ rfl rfl rfl]
  exact Steps.refl _
end New
end Jvm.RoadKit
namespace Jvm.Pilot.@@N@@
open Jvm Jvm.ClassFile Sem Op Lib Jvm.Free Jvm.Stand Jvm.LawKit Jvm.RoadKit Bundle Jvm.Pilot.@@N@@.Jvm.D
theorem own_nz_J {x : Int64} (h : (0 : Int64) < x) : ¬ (x = (0 : Int64)) := by rintro rfl; exact absurd h (by decide)
theorem own_nz_I {x : Int32} (h : (0 : Int32) < x) : ¬ (x = (0 : Int32)) := by rintro rfl; exact absurd h (by decide)
theorem own_fld {s : State} {args : Array Value} {tt : Term} {a : Addr} {C n d : String} {k : Int32} (ev : tt.eval args s none [] s = some (.ref a)) (h : (Jvm.Cond.eq (.field tt C n d) (.int k)).value args s none s [] = some true) : Fld s s.heap a C n d (.int k) := by
  obtain ⟨u, v, hu, hv, k1, k2⟩ := cmp_v (Or.inl h)
  have hv' : v = .int k := (Option.some.inj (hv.symm.trans (Term.int_eval k)))
  subst hv'
  obtain ⟨z, rfl⟩ := k2
  have hz := gotT (Cond.eq_ints hu hv) h
  subst hz
  exact Fld.start (by rw [← fld_at ev]; exact hu)
def own_at (vs : List Int32) (j : Int32) : Int32 := vs.getD j.toNatClampNeg 0
def own_atL (vs : List Int64) (j : Int32) : Int64 := vs.getD j.toNatClampNeg 0
theorem own_getD (vs : List Int32) (j : Int32) : (vs.map Value.int).getD j.toNatClampNeg (.int (0 : Int32)) = .int (own_at vs j) := by
  unfold own_at
  generalize j.toNatClampNeg = k
  induction vs generalizing k with
  | nil => rfl
  | cons a t ih => cases k with
    | zero => rfl
    | succ k => simpa using ih k
theorem own_getDL (vs : List Int64) (j : Int32) : (vs.map Value.long).getD j.toNatClampNeg (.long (0 : Int64)) = .long (own_atL vs j) := by
  unfold own_atL
  generalize j.toNatClampNeg = k
  induction vs generalizing k with
  | nil => rfl
  | cons a t ih => cases k with
    | zero => rfl
    | succ k => simpa using ih k
theorem own_rem (x y : Int32) : x - (x / y) * y = x % y := by
  apply Int32.toInt_inj.mp
  by_cases h : x = Int32.minValue ∧ y = -1
  · obtain ⟨rfl, rfl⟩ := h; decide
  · have hd : (x / y).toInt = x.toInt.tdiv y.toInt := Jvm.Kit.i32_div (fun q => h ⟨Int32.toInt_inj.mp q.1, Int32.toInt_inj.mp q.2⟩)
    have h1 := c_imul (x / y) y
    have h2 := c_isub x ((x / y) * y)
    have h3 := Int.tmod_add_tdiv_mul x.toInt y.toInt
    have h4 := rng32 (x - (x / y) * y)
    have h5 := rng32 (x % y)
    rw [hd] at h1
    rw [Int32.toInt_mod] at h5 ⊢
    omega
def own_a (p : Int32) : Int32 := (p &&& (2147483647 : Int32)) - ((p &&& (2147483647 : Int32)) / (100 : Int32)) * (100 : Int32)
def own_h (p : Int32) : Int32 := own_a p / (10 : Int32)
def own_l (p : Int32) : Int32 := own_a p - (own_a p / (10 : Int32)) * (10 : Int32)
theorem own_ar (p : Int32) : 0 ≤ (own_a p).toInt ∧ (own_a p).toInt ≤ 99 := by
  have h1 := c_mask p 2147483647 31 (by decide) (by decide)
  have h2 := (c_irem (p &&& 2147483647) 100 100 rfl).1 (by omega)
  unfold own_a
  rw [own_rem]
  omega
theorem own_hr (p : Int32) : 0 ≤ (own_h p).toInt ∧ (own_h p).toInt ≤ 9 := by
  have h1 := own_ar p
  have h2 := (c_idiv (own_a p) 10 10 rfl (by decide)).1 (by omega)
  unfold own_h
  omega
theorem own_lr (p : Int32) : 0 ≤ (own_l p).toInt ∧ (own_l p).toInt ≤ 9 := by
  have h1 := own_ar p
  have h2 := (c_irem (own_a p) 10 10 rfl).1 (by omega)
  unfold own_l
  rw [own_rem]
  omega
theorem d2_0 : decode method_2_code 0 = .ok (.iload_n 0, 1) := by decide +kernel
theorem d2_1 : decode method_2_code 1 = .ok (.iload_n 1, 1) := by decide +kernel
theorem d2_2 : decode method_2_code 2 = .ok (.iushr, 1) := by decide +kernel
theorem d2_3 : decode method_2_code 3 = .ok (.iconst 1, 1) := by decide +kernel
theorem d2_4 : decode method_2_code 4 = .ok (.iand, 1) := by decide +kernel
theorem d2_5 : decode method_2_code 5 = .ok (.ifCond .eq 7, 3) := by decide +kernel
theorem d2_8 : decode method_2_code 8 = .ok (.iconst 1, 1) := by decide +kernel
theorem d2_9 : decode method_2_code 9 = .ok (.goto 4, 3) := by decide +kernel
theorem d2_12 : decode method_2_code 12 = .ok (.iconst 0, 1) := by decide +kernel
theorem d2_13 : decode method_2_code 13 = .ok (.ireturn, 1) := by decide +kernel
theorem pn_2 : plainName "com/example/loadstone/loadstone/ByteWordsNumberPinLaw" = true := by first | (simp [plainName, overriddenIn]; done) | decide +kernel
theorem ef_2 (m : MethodId) (x0 : Int32) (x1 : Int32) : entryFrame m #[(.int x0), (.int x1)] 2 = mkF m 0 #[.val (.int x0), .val (.int x1)] [] := by first | (simp [entryFrame, mkF, argsToLocals, Value.category]; done) | rfl
def f2 (p1 : Int32) (p2 : Int32) : Int32 := (if (((p1.toUInt32 >>> (p2 &&& 31).toUInt32).toInt32) &&& (1 : Int32)) = (0 : Int32) then (0 : Int32) else (1 : Int32))
def Q2 (Z : State) (p1 : Int32) (p2 : Int32) (h0 : Heap) (n0 : Nat) (v : Option Value) (h : Heap) (L : List Loc) : Prop := v = some (.int (f2 p1 p2)) ∧ Fr n0 L ∧ h = h0
set_option maxRecDepth 65536 in
set_option maxHeartbeats 40000000 in
theorem rm2 (l : Launch) (Z : State) (a0 : Array Value) (hw : ∀ d ∈ tables_1, d.before a0 Z = true) (ws : List Jvm.Cond) (p1 : Int32) (p2 : Int32) (h0 : Heap) (n0 : Nat) (Z0 : n0 ≤ h0.size) :
    MetFree l (⟨"com/example/loadstone/loadstone/ByteWordsNumberPinLaw", "zero", "(II)Z"⟩ : MethodName) (head1 (Jvm.Cond.code (⟨"com/example/loadstone/loadstone/ByteWordsNumberPinLaw", "zero", "(II)Z"⟩ : MethodName) method_2_code 2 (some .boolean) :: ws) ({ frames := 0, cells := 0, slots := 0, locals := 0 } : Room)) (fun a U => a = #[(.int p1), (.int p2)] ∧ Z.Warmed39 U.vm ∧ U.heap = h0) (fun _ _ _ _ _ => True) (fun _ U o U' => ∃ v L, o = .returned v ∧ Q2 Z p1 p2 h0 n0 v U'.heap L ∧ FrameEnd U o U' L ({ frames := 0, cells := 0, slots := 0, locals := 0 } : Room).cells ({ frames := 0, cells := 0, slots := 0, locals := 0 } : Room).slots) := by
  refine MetFree.of_bodySF (plainFor_of_name pn_2) hisR ?_
  intro p e s m args below meth c s₁ Bd hml0 hP hK
  obtain ⟨rfl, hZ, hh⟩ := hP
  have hx := Bd.exec
  have hby := Bd.bytes
  have hml : c.maxLocals = 2 := hml0
  have hown : s.vm.findClass "com/example/loadstone/loadstone/ByteWordsNumberPinLaw" = some m.cls := findClass_of_methodNamed Bd.named
  have hnm := (name_of_methodNamed Bd.named Bd.method).1
  have X0 : Stand p l e ({ frames := 0, cells := 0, slots := 0, locals := 0 } : Room) s m #[(.int p1), (.int p2)] below meth c s₁ [] 0 0 := Stand.of_body Bd
  have e0 : s₁.heap = h0 := by rw [← hh, Bd.state]; rfl
  have N0 := Fr.nil n0
  have pre0 : ∀ t, Steps p.tables e below (s₁.setTop (mkF m 0 #[.val (.int p1), .val (.int p2)] [])) t → Steps p.tables e below (s₁.setTop (entryFrame m #[(.int p1), (.int p2)] 2)) t := fun t k => castTop (ef_2 m p1 p2) k
  have pre3 : ∀ t, Steps p.tables e below (s₁.setTop (mkF m 5 #[.val (.int p1), .val (.int p2)] [(.int (((p1.toUInt32 >>> (p2 &&& 31).toUInt32).toInt32) &&& (1 : Int32)))])) t → Steps p.tables e below (s₁.setTop (entryFrame m #[(.int p1), (.int p2)] 2)) t := fun t kt => by
    refine pre0 _ ?_
    show Steps p.tables e below (s₁.setTop (mkF m 0 #[.val (.int p1), .val (.int p2)] [])) _
    refine XS.iloadN X0.here hx rfl (hb hby d2_0) rfl ?_
    show Steps p.tables e below (s₁.setTop (mkF m 1 _ [(.int p1)])) _
    refine XS.iloadN X0.here hx rfl (hb hby d2_1) rfl ?_
    show Steps p.tables e below (s₁.setTop (mkF m 2 _ [(.int p2), (.int p1)])) _
    refine XS.iushr X0.here hx rfl (hb hby d2_2) rfl ?_
    show Steps p.tables e below (s₁.setTop (mkF m 3 _ [(.int ((p1.toUInt32 >>> (p2 &&& 31).toUInt32).toInt32))])) _
    refine XS.iconst X0.here hx rfl (hb hby d2_3) ?_
    show Steps p.tables e below (s₁.setTop (mkF m 4 _ [(.int (1 : Int32)), (.int ((p1.toUInt32 >>> (p2 &&& 31).toUInt32).toInt32))])) _
    refine XS.iand X0.here hx rfl (hb hby d2_4) rfl ?_
    exact kt
  by_cases hc4 : (((p1.toUInt32 >>> (p2 &&& 31).toUInt32).toInt32) &&& (1 : Int32)) = (0 : Int32)
  · skip
    obtain ⟨fs, hr, hrun, hended, hW, hsame⟩ := X0.leave (v := some (.int (0 : Int32))) (fun h => by rw [Bd.returns] at h; cases h) (by first | exact BodyLoose.notSynchronized Bd | exact Body.notSynchronized Bd)
    refine ⟨_, _, pre3 _ ?_, hrun, hended, _, _, rfl, ?_, ⟨_, rfl⟩, hW, hsame.mono (by decide) (by decide)⟩
    · show Steps p.tables e below (s₁.setTop (mkF m 5 #[.val (.int p1), .val (.int p2)] [(.int (((p1.toUInt32 >>> (p2 &&& 31).toUInt32).toInt32) &&& (1 : Int32)))])) _
      refine XS.ifYes X0.here hx rfl (pc0 := 5) (pc' := 12) rfl (hb hby d2_5) rfl ((if0 _ _).trans (teq hc4).1) (by decide) (by decide) ?_
      show Steps p.tables e below (s₁.setTop (mkF m 12 _ [])) _
      refine XS.iconst X0.here hx rfl (hb hby d2_12) ?_
      show Steps p.tables e below (s₁.setTop (mkF m 13 #[.val (.int p1), .val (.int p2)] [(.int (0 : Int32))])) _
      exact retN X0 hx (t := .boolean) Bd.returns (by simp) (hb hby d2_13) hr
    · show Q2 Z p1 p2 h0 n0 _ s₁.heap _
      rw [e0]
      exact ⟨congrArg (fun z => some (Value.int z)) (by rw [f2, if_pos hc4] : f2 p1 p2 = (0 : Int32)).symm, N0, rfl⟩
  · skip
    obtain ⟨fs, hr, hrun, hended, hW, hsame⟩ := X0.leave (v := some (.int (1 : Int32))) (fun h => by rw [Bd.returns] at h; cases h) (by first | exact BodyLoose.notSynchronized Bd | exact Body.notSynchronized Bd)
    refine ⟨_, _, pre3 _ ?_, hrun, hended, _, _, rfl, ?_, ⟨_, rfl⟩, hW, hsame.mono (by decide) (by decide)⟩
    · show Steps p.tables e below (s₁.setTop (mkF m 5 #[.val (.int p1), .val (.int p2)] [(.int (((p1.toUInt32 >>> (p2 &&& 31).toUInt32).toInt32) &&& (1 : Int32)))])) _
      refine XS.ifNo X0.here hx rfl (hb hby d2_5) rfl ((if0 _ _).trans (feq hc4).1) ?_
      show Steps p.tables e below (s₁.setTop (mkF m 8 _ [])) _
      refine XS.iconst X0.here hx rfl (hb hby d2_8) ?_
      show Steps p.tables e below (s₁.setTop (mkF m 9 _ [(.int (1 : Int32))])) _
      refine XS.goto X0.here hx rfl (pc0 := 9) (pc' := 13) rfl (hb hby d2_9) (by decide) (by decide) ?_
      show Steps p.tables e below (s₁.setTop (mkF m 13 #[.val (.int p1), .val (.int p2)] [(.int (1 : Int32))])) _
      exact retN X0 hx (t := .boolean) Bd.returns (by simp) (hb hby d2_13) hr
    · show Q2 Z p1 p2 h0 n0 _ s₁.heap _
      rw [e0]
      exact ⟨congrArg (fun z => some (Value.int z)) (by rw [f2, if_neg hc4] : f2 p1 p2 = (1 : Int32)).symm, N0, rfl⟩
theorem d1_0 : decode method_4_code 0 = .ok (.iload_n 1, 1) := by decide +kernel
theorem d1_1 : decode method_4_code 1 = .ok (.iload_n 2, 1) := by decide +kernel
theorem d1_2 : decode method_4_code 2 = .ok (.invokestatic 7, 3) := by decide +kernel
theorem d1_5 : decode method_4_code 5 = .ok (.ifCond .eq 7, 3) := by decide +kernel
theorem d1_8 : decode method_4_code 8 = .ok (.lconst 0, 1) := by decide +kernel
theorem d1_9 : decode method_4_code 9 = .ok (.goto 9, 3) := by decide +kernel
theorem d1_12 : decode method_4_code 12 = .ok (.ldc2_w 13, 3) := by decide +kernel
theorem d1_15 : decode method_4_code 15 = .ok (.iload_n 0, 1) := by decide +kernel
theorem d1_16 : decode method_4_code 16 = .ok (.i2l, 1) := by decide +kernel
theorem d1_17 : decode method_4_code 17 = .ok (.ladd, 1) := by decide +kernel
theorem d1_18 : decode method_4_code 18 = .ok (.lstore_n 3, 1) := by decide +kernel
theorem d1_19 : decode method_4_code 19 = .ok (.lload_n 3, 1) := by decide +kernel
theorem d1_20 : decode method_4_code 20 = .ok (.bipush 8, 2) := by decide +kernel
theorem d1_22 : decode method_4_code 22 = .ok (.iload_n 2, 1) := by decide +kernel
theorem d1_23 : decode method_4_code 23 = .ok (.imul, 1) := by decide +kernel
theorem d1_24 : decode method_4_code 24 = .ok (.lshl, 1) := by decide +kernel
theorem d1_25 : decode method_4_code 25 = .ok (.lreturn, 1) := by decide +kernel
theorem pn_1 : plainName "com/example/loadstone/loadstone/ByteWordsNumberPinLaw" = true := by first | (simp [plainName, overriddenIn]; done) | decide +kernel
theorem pd_1_1 : parseMethodDescriptor "(II)Z" = some ⟨[.int, .int], some .boolean⟩ := by decide +kernel
theorem ef_1 (m : MethodId) (x0 : Int32) (x1 : Int32) (x2 : Int32) : entryFrame m #[(.int x0), (.int x1), (.int x2)] 5 = mkF m 0 #[.val (.int x0), .val (.int x1), .val (.int x2), .unset, .unset] [] := by first | (simp [entryFrame, mkF, argsToLocals, Value.category]; done) | rfl
def f1 (p1 : Int32) (p2 : Int32) (p3 : Int32) : Int64 := (if (f2 p2 p3) = (0 : Int32) then (((48 : Int64) + (p1.toInt64)) <<< (((8 : Int32) * p3) &&& 0x3f).toInt64) else ((0 : Int64) <<< (((8 : Int32) * p3) &&& 0x3f).toInt64))
def Q1 (Z : State) (p1 : Int32) (p2 : Int32) (p3 : Int32) (h0 : Heap) (n0 : Nat) (v : Option Value) (h : Heap) (L : List Loc) : Prop := v = some (.long (f1 p1 p2 p3)) ∧ Fr n0 L ∧ h = h0
set_option maxRecDepth 65536 in
set_option maxHeartbeats 40000000 in
theorem rm1 (l : Launch) (Z : State) (a0 : Array Value) (hw : ∀ d ∈ tables_1, d.before a0 Z = true) (ws : List Jvm.Cond) (p1 : Int32) (p2 : Int32) (p3 : Int32) (h0 : Heap) (n0 : Nat) (Z0 : n0 ≤ h0.size) :
    MetFree l (⟨"com/example/loadstone/loadstone/ByteWordsNumberPinLaw", "place", "(III)J"⟩ : MethodName) (head1 (Jvm.Cond.code (⟨"com/example/loadstone/loadstone/ByteWordsNumberPinLaw", "place", "(III)J"⟩ : MethodName) method_4_code 5 (some .long) :: ws) ({ frames := 1, cells := 0, slots := 0, locals := 13 } : Room)) (fun a U => a = #[(.int p1), (.int p2), (.int p3)] ∧ Z.Warmed39 U.vm ∧ U.heap = h0) (fun _ _ _ _ _ => True) (fun _ U o U' => ∃ v L, o = .returned v ∧ Q1 Z p1 p2 p3 h0 n0 v U'.heap L ∧ FrameEnd U o U' L ({ frames := 1, cells := 0, slots := 0, locals := 13 } : Room).cells ({ frames := 1, cells := 0, slots := 0, locals := 13 } : Room).slots) := by
  refine MetFree.of_bodySF (plainFor_of_name pn_1) hisR ?_
  intro p e s m args below meth c s₁ Bd hml0 hP hK
  obtain ⟨rfl, hZ, hh⟩ := hP
  have hx := Bd.exec
  have hby := Bd.bytes
  have hml : c.maxLocals = 5 := hml0
  have hown : s.vm.findClass "com/example/loadstone/loadstone/ByteWordsNumberPinLaw" = some m.cls := findClass_of_methodNamed Bd.named
  have hnm := (name_of_methodNamed Bd.named Bd.method).1
  have X0 : Stand p l e ({ frames := 1, cells := 0, slots := 0, locals := 13 } : Room) s m #[(.int p1), (.int p2), (.int p3)] below meth c s₁ [] 0 0 := Stand.of_body Bd
  have e0 : s₁.heap = h0 := by rw [← hh, Bd.state]; rfl
  have N0 := Fr.nil n0
  have pre0 : ∀ t, Steps p.tables e below (s₁.setTop (mkF m 0 #[.val (.int p1), .val (.int p2), .val (.int p3), .unset, .unset] [])) t → Steps p.tables e below (s₁.setTop (entryFrame m #[(.int p1), (.int p2), (.int p3)] 5)) t := fun t k => castTop (ef_1 m p1 p2 p3) k
  obtain ⟨_, _, ⟨T4, L4, k4, n4⟩, -, X4, ⟨Lc4, hQ4, l4, y4, z4⟩, st4⟩ := Jvm.LawKit.callS X0 hx (y := (⟨"com/example/loadstone/loadstone/ByteWordsNumberPinLaw", "zero", "(II)Z"⟩ : MethodName)) hown (mvT hZ (hw _ (List.mem_of_getElem? (i := 5) rfl))) (mvT hZ (hw _ (List.mem_of_getElem? (i := 6) rfl))) (mvT hZ (hw _ (List.mem_of_getElem? (i := 3) rfl))) (mvT hZ (hw _ (List.mem_of_getElem? (i := 7) rfl))) (by decide) (backOf (W := 0) (rm2 l Z a0 hw [] p2 p3 h0 n0 Z0 ) hZ (hw _ (List.mem_of_getElem? (i := 7) rfl)) (hw _ (List.mem_of_getElem? (i := 3) rfl)) (by decide) (by decide)) (g := (mkF m 2 #[.val (.int p1), .val (.int p2), .val (.int p3), .unset, .unset] [(.int p3), (.int p2)])) rfl (by rw [hml]; rfl) (argsL := [(.int p2), (.int p3)]) (rest := []) (lenOf pd_1_1 rfl) rfl (by show 2 * 0 + _ ≤ _; exact Nat.le_of_eq rfl) (hb hby d1_2) (fun _ _ => ⟨rfl, e0, (by decide : 0 + 0 ≤ _), (by decide : 0 + 0 ≤ _)⟩)
  dsimp only [Pt.U, Pt.locs, Pt.cells, Pt.slots] at X4 l4 y4 z4 st4 hQ4
  subst l4 y4 z4
  obtain ⟨rfl, N4q, e4⟩ := hQ4
  have N4 := Fr.app N0 N4q
  have pre5 : ∀ t, Steps p.tables e below (T4.setTop (mkF m 5 #[.val (.int p1), .val (.int p2), .val (.int p3), .unset, .unset] [(.int (f2 p2 p3))])) t → Steps p.tables e below (s₁.setTop (entryFrame m #[(.int p1), (.int p2), (.int p3)] 5)) t := fun t kt => by
    refine pre0 _ ?_
    show Steps p.tables e below (s₁.setTop (mkF m 0 #[.val (.int p1), .val (.int p2), .val (.int p3), .unset, .unset] [])) _
    refine XS.iloadN X0.here hx rfl (hb hby d1_0) rfl ?_
    show Steps p.tables e below (s₁.setTop (mkF m 1 _ [(.int p2)])) _
    refine XS.iloadN X0.here hx rfl (hb hby d1_1) rfl ?_
    show Steps p.tables e below (s₁.setTop (mkF m 2 _ [(.int p3), (.int p2)])) _
    refine st4 _ ?_
    exact kt
  by_cases hc6 : (f2 p2 p3) = (0 : Int32)
  · skip
    obtain ⟨fs, hr, hrun, hended, hW, hsame⟩ := X4.leave (v := some (.long (((48 : Int64) + (p1.toInt64)) <<< (((8 : Int32) * p3) &&& 0x3f).toInt64))) (fun h => by rw [Bd.returns] at h; cases h) (by first | exact BodyLoose.notSynchronized Bd | exact Body.notSynchronized Bd)
    refine ⟨_, _, pre5 _ ?_, hrun, hended, _, _, rfl, ?_, ⟨_, rfl⟩, hW, hsame.mono (by decide) (by decide)⟩
    · show Steps p.tables e below (T4.setTop (mkF m 5 #[.val (.int p1), .val (.int p2), .val (.int p3), .unset, .unset] [(.int (f2 p2 p3))])) _
      refine XS.ifYes X4.here hx rfl (pc0 := 5) (pc' := 12) rfl (hb hby d1_5) rfl ((if0 _ _).trans (teq hc6).1) (by decide) (by decide) ?_
      show Steps p.tables e below (T4.setTop (mkF m 12 _ [])) _
      refine X4.ldc2Long hx hown (mvT hZ (hw _ (List.mem_of_getElem? (i := 8) rfl))) (g := (mkF m 12 #[.val (.int p1), .val (.int p2), .val (.int p3), .unset, .unset] [])) rfl (hb hby d1_12) _ ?_
      show Steps p.tables e below (T4.setTop (mkF m 15 _ [(.long (48 : Int64))])) _
      refine XS.iloadN X4.here hx rfl (hb hby d1_15) rfl ?_
      show Steps p.tables e below (T4.setTop (mkF m 16 _ [(.int p1), (.long (48 : Int64))])) _
      refine XS.i2l X4.here hx rfl (hb hby d1_16) rfl ?_
      show Steps p.tables e below (T4.setTop (mkF m 17 _ [(.long (p1.toInt64)), (.long (48 : Int64))])) _
      refine XS.ladd X4.here hx rfl (hb hby d1_17) rfl ?_
      show Steps p.tables e below (T4.setTop (mkF m 18 _ [(.long ((48 : Int64) + (p1.toInt64)))])) _
      refine XS.lstoreN X4.here hx rfl (hb hby d1_18) rfl (l' := #[.val (.int p1), .val (.int p2), .val (.int p3), .val (.long ((48 : Int64) + (p1.toInt64))), .second]) rfl ?_
      show Steps p.tables e below (T4.setTop (mkF m 19 _ [])) _
      refine XS.lloadN X4.here hx rfl (hb hby d1_19) rfl ?_
      show Steps p.tables e below (T4.setTop (mkF m 20 _ [(.long ((48 : Int64) + (p1.toInt64)))])) _
      refine XS.bipush X4.here hx rfl (hb hby d1_20) ?_
      show Steps p.tables e below (T4.setTop (mkF m 22 _ [(.int (8 : Int32)), (.long ((48 : Int64) + (p1.toInt64)))])) _
      refine XS.iloadN X4.here hx rfl (hb hby d1_22) rfl ?_
      show Steps p.tables e below (T4.setTop (mkF m 23 _ [(.int p3), (.int (8 : Int32)), (.long ((48 : Int64) + (p1.toInt64)))])) _
      refine XS.imul X4.here hx rfl (hb hby d1_23) rfl ?_
      show Steps p.tables e below (T4.setTop (mkF m 24 _ [(.int ((8 : Int32) * p3)), (.long ((48 : Int64) + (p1.toInt64)))])) _
      refine XS.lshl X4.here hx rfl (hb hby d1_24) rfl ?_
      show Steps p.tables e below (T4.setTop (mkF m 25 #[.val (.int p1), .val (.int p2), .val (.int p3), .val (.long ((48 : Int64) + (p1.toInt64))), .second] [(.long (((48 : Int64) + (p1.toInt64)) <<< (((8 : Int32) * p3) &&& 0x3f).toInt64))])) _
      exact X4.lreturnOut hx Bd.returns (hb hby d1_25) hr
    · show Q1 Z p1 p2 p3 h0 n0 _ T4.heap _
      rw [e4]
      exact ⟨congrArg (fun z => some (Value.long z)) (by rw [f1, if_pos hc6] : f1 p1 p2 p3 = (((48 : Int64) + (p1.toInt64)) <<< (((8 : Int32) * p3) &&& 0x3f).toInt64)).symm, N4, rfl⟩
  · skip
    obtain ⟨fs, hr, hrun, hended, hW, hsame⟩ := X4.leave (v := some (.long ((0 : Int64) <<< (((8 : Int32) * p3) &&& 0x3f).toInt64))) (fun h => by rw [Bd.returns] at h; cases h) (by first | exact BodyLoose.notSynchronized Bd | exact Body.notSynchronized Bd)
    refine ⟨_, _, pre5 _ ?_, hrun, hended, _, _, rfl, ?_, ⟨_, rfl⟩, hW, hsame.mono (by decide) (by decide)⟩
    · show Steps p.tables e below (T4.setTop (mkF m 5 #[.val (.int p1), .val (.int p2), .val (.int p3), .unset, .unset] [(.int (f2 p2 p3))])) _
      refine XS.ifNo X4.here hx rfl (hb hby d1_5) rfl ((if0 _ _).trans (feq hc6).1) ?_
      show Steps p.tables e below (T4.setTop (mkF m 8 _ [])) _
      refine XS.lconst X4.here hx rfl (hb hby d1_8) ?_
      show Steps p.tables e below (T4.setTop (mkF m 9 _ [(.long (0 : Int64))])) _
      refine XS.goto X4.here hx rfl (pc0 := 9) (pc' := 18) rfl (hb hby d1_9) (by decide) (by decide) ?_
      show Steps p.tables e below (T4.setTop (mkF m 18 _ [(.long (0 : Int64))])) _
      refine XS.lstoreN X4.here hx rfl (hb hby d1_18) rfl (l' := #[.val (.int p1), .val (.int p2), .val (.int p3), .val (.long (0 : Int64)), .second]) rfl ?_
      show Steps p.tables e below (T4.setTop (mkF m 19 _ [])) _
      refine XS.lloadN X4.here hx rfl (hb hby d1_19) rfl ?_
      show Steps p.tables e below (T4.setTop (mkF m 20 _ [(.long (0 : Int64))])) _
      refine XS.bipush X4.here hx rfl (hb hby d1_20) ?_
      show Steps p.tables e below (T4.setTop (mkF m 22 _ [(.int (8 : Int32)), (.long (0 : Int64))])) _
      refine XS.iloadN X4.here hx rfl (hb hby d1_22) rfl ?_
      show Steps p.tables e below (T4.setTop (mkF m 23 _ [(.int p3), (.int (8 : Int32)), (.long (0 : Int64))])) _
      refine XS.imul X4.here hx rfl (hb hby d1_23) rfl ?_
      show Steps p.tables e below (T4.setTop (mkF m 24 _ [(.int ((8 : Int32) * p3)), (.long (0 : Int64))])) _
      refine XS.lshl X4.here hx rfl (hb hby d1_24) rfl ?_
      show Steps p.tables e below (T4.setTop (mkF m 25 #[.val (.int p1), .val (.int p2), .val (.int p3), .val (.long (0 : Int64)), .second] [(.long ((0 : Int64) <<< (((8 : Int32) * p3) &&& 0x3f).toInt64))])) _
      exact X4.lreturnOut hx Bd.returns (hb hby d1_25) hr
    · show Q1 Z p1 p2 p3 h0 n0 _ T4.heap _
      rw [e4]
      exact ⟨congrArg (fun z => some (Value.long z)) (by rw [f1, if_neg hc6] : f1 p1 p2 p3 = ((0 : Int64) <<< (((8 : Int32) * p3) &&& 0x3f).toInt64)).symm, N4, rfl⟩
theorem d3_0 : decode method_3_code 0 = .ok (.iload_n 1, 1) := by decide +kernel
theorem d3_1 : decode method_3_code 1 = .ok (.iload_n 2, 1) := by decide +kernel
theorem d3_2 : decode method_3_code 2 = .ok (.invokestatic 7, 3) := by decide +kernel
theorem d3_5 : decode method_3_code 5 = .ok (.ifCond .eq 7, 3) := by decide +kernel
theorem d3_8 : decode method_3_code 8 = .ok (.iconst 0, 1) := by decide +kernel
theorem d3_9 : decode method_3_code 9 = .ok (.goto 4, 3) := by decide +kernel
theorem d3_12 : decode method_3_code 12 = .ok (.iload_n 0, 1) := by decide +kernel
theorem d3_13 : decode method_3_code 13 = .ok (.ireturn, 1) := by decide +kernel
theorem pn_3 : plainName "com/example/loadstone/loadstone/ByteWordsNumberPinLaw" = true := by first | (simp [plainName, overriddenIn]; done) | decide +kernel
theorem pd_3_1 : parseMethodDescriptor "(II)Z" = some ⟨[.int, .int], some .boolean⟩ := by decide +kernel
theorem ef_3 (m : MethodId) (x0 : Int32) (x1 : Int32) (x2 : Int32) : entryFrame m #[(.int x0), (.int x1), (.int x2)] 3 = mkF m 0 #[.val (.int x0), .val (.int x1), .val (.int x2)] [] := by first | (simp [entryFrame, mkF, argsToLocals, Value.category]; done) | rfl
def f3 (p1 : Int32) (p2 : Int32) (p3 : Int32) : Int32 := (if (f2 p2 p3) = (0 : Int32) then p1 else (0 : Int32))
def Q3 (Z : State) (p1 : Int32) (p2 : Int32) (p3 : Int32) (h0 : Heap) (n0 : Nat) (v : Option Value) (h : Heap) (L : List Loc) : Prop := v = some (.int (f3 p1 p2 p3)) ∧ Fr n0 L ∧ h = h0
set_option maxRecDepth 65536 in
set_option maxHeartbeats 40000000 in
theorem rm3 (l : Launch) (Z : State) (a0 : Array Value) (hw : ∀ d ∈ tables_1, d.before a0 Z = true) (ws : List Jvm.Cond) (p1 : Int32) (p2 : Int32) (p3 : Int32) (h0 : Heap) (n0 : Nat) (Z0 : n0 ≤ h0.size) :
    MetFree l (⟨"com/example/loadstone/loadstone/ByteWordsNumberPinLaw", "digit", "(III)I"⟩ : MethodName) (head1 (Jvm.Cond.code (⟨"com/example/loadstone/loadstone/ByteWordsNumberPinLaw", "digit", "(III)I"⟩ : MethodName) method_3_code 3 (some .int) :: ws) ({ frames := 1, cells := 0, slots := 0, locals := 13 } : Room)) (fun a U => a = #[(.int p1), (.int p2), (.int p3)] ∧ Z.Warmed39 U.vm ∧ U.heap = h0) (fun _ _ _ _ _ => True) (fun _ U o U' => ∃ v L, o = .returned v ∧ Q3 Z p1 p2 p3 h0 n0 v U'.heap L ∧ FrameEnd U o U' L ({ frames := 1, cells := 0, slots := 0, locals := 13 } : Room).cells ({ frames := 1, cells := 0, slots := 0, locals := 13 } : Room).slots) := by
  refine MetFree.of_bodySF (plainFor_of_name pn_3) hisR ?_
  intro p e s m args below meth c s₁ Bd hml0 hP hK
  obtain ⟨rfl, hZ, hh⟩ := hP
  have hx := Bd.exec
  have hby := Bd.bytes
  have hml : c.maxLocals = 3 := hml0
  have hown : s.vm.findClass "com/example/loadstone/loadstone/ByteWordsNumberPinLaw" = some m.cls := findClass_of_methodNamed Bd.named
  have hnm := (name_of_methodNamed Bd.named Bd.method).1
  have X0 : Stand p l e ({ frames := 1, cells := 0, slots := 0, locals := 13 } : Room) s m #[(.int p1), (.int p2), (.int p3)] below meth c s₁ [] 0 0 := Stand.of_body Bd
  have e0 : s₁.heap = h0 := by rw [← hh, Bd.state]; rfl
  have N0 := Fr.nil n0
  have pre0 : ∀ t, Steps p.tables e below (s₁.setTop (mkF m 0 #[.val (.int p1), .val (.int p2), .val (.int p3)] [])) t → Steps p.tables e below (s₁.setTop (entryFrame m #[(.int p1), (.int p2), (.int p3)] 3)) t := fun t k => castTop (ef_3 m p1 p2 p3) k
  obtain ⟨_, _, ⟨T4, L4, k4, n4⟩, -, X4, ⟨Lc4, hQ4, l4, y4, z4⟩, st4⟩ := Jvm.LawKit.callS X0 hx (y := (⟨"com/example/loadstone/loadstone/ByteWordsNumberPinLaw", "zero", "(II)Z"⟩ : MethodName)) hown (mvT hZ (hw _ (List.mem_of_getElem? (i := 5) rfl))) (mvT hZ (hw _ (List.mem_of_getElem? (i := 6) rfl))) (mvT hZ (hw _ (List.mem_of_getElem? (i := 3) rfl))) (mvT hZ (hw _ (List.mem_of_getElem? (i := 7) rfl))) (by decide) (backOf (W := 0) (rm2 l Z a0 hw [] p2 p3 h0 n0 Z0 ) hZ (hw _ (List.mem_of_getElem? (i := 7) rfl)) (hw _ (List.mem_of_getElem? (i := 3) rfl)) (by decide) (by decide)) (g := (mkF m 2 #[.val (.int p1), .val (.int p2), .val (.int p3)] [(.int p3), (.int p2)])) rfl (by rw [hml]; rfl) (argsL := [(.int p2), (.int p3)]) (rest := []) (lenOf pd_3_1 rfl) rfl (by show 2 * 0 + _ ≤ _; exact Nat.le_of_eq rfl) (hb hby d3_2) (fun _ _ => ⟨rfl, e0, (by decide : 0 + 0 ≤ _), (by decide : 0 + 0 ≤ _)⟩)
  dsimp only [Pt.U, Pt.locs, Pt.cells, Pt.slots] at X4 l4 y4 z4 st4 hQ4
  subst l4 y4 z4
  obtain ⟨rfl, N4q, e4⟩ := hQ4
  have N4 := Fr.app N0 N4q
  have pre5 : ∀ t, Steps p.tables e below (T4.setTop (mkF m 5 #[.val (.int p1), .val (.int p2), .val (.int p3)] [(.int (f2 p2 p3))])) t → Steps p.tables e below (s₁.setTop (entryFrame m #[(.int p1), (.int p2), (.int p3)] 3)) t := fun t kt => by
    refine pre0 _ ?_
    show Steps p.tables e below (s₁.setTop (mkF m 0 #[.val (.int p1), .val (.int p2), .val (.int p3)] [])) _
    refine XS.iloadN X0.here hx rfl (hb hby d3_0) rfl ?_
    show Steps p.tables e below (s₁.setTop (mkF m 1 _ [(.int p2)])) _
    refine XS.iloadN X0.here hx rfl (hb hby d3_1) rfl ?_
    show Steps p.tables e below (s₁.setTop (mkF m 2 _ [(.int p3), (.int p2)])) _
    refine st4 _ ?_
    exact kt
  by_cases hc6 : (f2 p2 p3) = (0 : Int32)
  · skip
    obtain ⟨fs, hr, hrun, hended, hW, hsame⟩ := X4.leave (v := some (.int p1)) (fun h => by rw [Bd.returns] at h; cases h) (by first | exact BodyLoose.notSynchronized Bd | exact Body.notSynchronized Bd)
    refine ⟨_, _, pre5 _ ?_, hrun, hended, _, _, rfl, ?_, ⟨_, rfl⟩, hW, hsame.mono (by decide) (by decide)⟩
    · show Steps p.tables e below (T4.setTop (mkF m 5 #[.val (.int p1), .val (.int p2), .val (.int p3)] [(.int (f2 p2 p3))])) _
      refine XS.ifYes X4.here hx rfl (pc0 := 5) (pc' := 12) rfl (hb hby d3_5) rfl ((if0 _ _).trans (teq hc6).1) (by decide) (by decide) ?_
      show Steps p.tables e below (T4.setTop (mkF m 12 _ [])) _
      refine XS.iloadN X4.here hx rfl (hb hby d3_12) rfl ?_
      show Steps p.tables e below (T4.setTop (mkF m 13 #[.val (.int p1), .val (.int p2), .val (.int p3)] [(.int p1)])) _
      exact retI X4 hx Bd.returns (hb hby d3_13) hr
    · show Q3 Z p1 p2 p3 h0 n0 _ T4.heap _
      rw [e4]
      exact ⟨congrArg (fun z => some (Value.int z)) (by rw [f3, if_pos hc6] : f3 p1 p2 p3 = p1).symm, N4, rfl⟩
  · skip
    obtain ⟨fs, hr, hrun, hended, hW, hsame⟩ := X4.leave (v := some (.int (0 : Int32))) (fun h => by rw [Bd.returns] at h; cases h) (by first | exact BodyLoose.notSynchronized Bd | exact Body.notSynchronized Bd)
    refine ⟨_, _, pre5 _ ?_, hrun, hended, _, _, rfl, ?_, ⟨_, rfl⟩, hW, hsame.mono (by decide) (by decide)⟩
    · show Steps p.tables e below (T4.setTop (mkF m 5 #[.val (.int p1), .val (.int p2), .val (.int p3)] [(.int (f2 p2 p3))])) _
      refine XS.ifNo X4.here hx rfl (hb hby d3_5) rfl ((if0 _ _).trans (feq hc6).1) ?_
      show Steps p.tables e below (T4.setTop (mkF m 8 _ [])) _
      refine XS.iconst X4.here hx rfl (hb hby d3_8) ?_
      show Steps p.tables e below (T4.setTop (mkF m 9 _ [(.int (0 : Int32))])) _
      refine XS.goto X4.here hx rfl (pc0 := 9) (pc' := 13) rfl (hb hby d3_9) (by decide) (by decide) ?_
      show Steps p.tables e below (T4.setTop (mkF m 13 #[.val (.int p1), .val (.int p2), .val (.int p3)] [(.int (0 : Int32))])) _
      exact retI X4 hx Bd.returns (hb hby d3_13) hr
    · show Q3 Z p1 p2 p3 h0 n0 _ T4.heap _
      rw [e4]
      exact ⟨congrArg (fun z => some (Value.int z)) (by rw [f3, if_neg hc6] : f3 p1 p2 p3 = (0 : Int32)).symm, N4, rfl⟩
theorem d4_0 : decode prog_9_method_7_code 0 = .ok (.lload_n 0, 1) := by decide +kernel
theorem d4_1 : decode prog_9_method_7_code 1 = .ok (.ldc2_w 29, 3) := by decide +kernel
theorem d4_4 : decode prog_9_method_7_code 4 = .ok (.land, 1) := by decide +kernel
theorem d4_5 : decode prog_9_method_7_code 5 = .ok (.lstore_n 2, 1) := by decide +kernel
theorem d4_6 : decode prog_9_method_7_code 6 = .ok (.lload_n 2, 1) := by decide +kernel
theorem d4_7 : decode prog_9_method_7_code 7 = .ok (.ldc2_w 33, 3) := by decide +kernel
theorem d4_10 : decode prog_9_method_7_code 10 = .ok (.lmul, 1) := by decide +kernel
theorem d4_11 : decode prog_9_method_7_code 11 = .ok (.bipush 8, 2) := by decide +kernel
theorem d4_13 : decode prog_9_method_7_code 13 = .ok (.lushr, 1) := by decide +kernel
theorem d4_14 : decode prog_9_method_7_code 14 = .ok (.ldc2_w 35, 3) := by decide +kernel
theorem d4_17 : decode prog_9_method_7_code 17 = .ok (.land, 1) := by decide +kernel
theorem d4_18 : decode prog_9_method_7_code 18 = .ok (.lstore 4, 2) := by decide +kernel
theorem d4_20 : decode prog_9_method_7_code 20 = .ok (.lload 4, 2) := by decide +kernel
theorem d4_22 : decode prog_9_method_7_code 22 = .ok (.ldc2_w 39, 3) := by decide +kernel
theorem d4_25 : decode prog_9_method_7_code 25 = .ok (.lmul, 1) := by decide +kernel
theorem d4_26 : decode prog_9_method_7_code 26 = .ok (.bipush 16, 2) := by decide +kernel
theorem d4_28 : decode prog_9_method_7_code 28 = .ok (.lushr, 1) := by decide +kernel
theorem d4_29 : decode prog_9_method_7_code 29 = .ok (.ldc2_w 41, 3) := by decide +kernel
theorem d4_32 : decode prog_9_method_7_code 32 = .ok (.land, 1) := by decide +kernel
theorem d4_33 : decode prog_9_method_7_code 33 = .ok (.lstore 6, 2) := by decide +kernel
theorem d4_35 : decode prog_9_method_7_code 35 = .ok (.lload 6, 2) := by decide +kernel
theorem d4_37 : decode prog_9_method_7_code 37 = .ok (.ldc2_w 45, 3) := by decide +kernel
theorem d4_40 : decode prog_9_method_7_code 40 = .ok (.lmul, 1) := by decide +kernel
theorem d4_41 : decode prog_9_method_7_code 41 = .ok (.bipush 32, 2) := by decide +kernel
theorem d4_43 : decode prog_9_method_7_code 43 = .ok (.lushr, 1) := by decide +kernel
theorem d4_44 : decode prog_9_method_7_code 44 = .ok (.l2i, 1) := by decide +kernel
theorem d4_45 : decode prog_9_method_7_code 45 = .ok (.ireturn, 1) := by decide +kernel
theorem pn_4 : plainName "com/example/loadstone/loadstone/ByteWords" = true := by first | (simp [plainName, overriddenIn]; done) | decide +kernel
theorem ef_4 (m : MethodId) (x0 : Int64) : entryFrame m #[(.long x0)] 8 = mkF m 0 #[.val (.long x0), .second, .unset, .unset, .unset, .unset, .unset, .unset] [] := by first | (simp [entryFrame, mkF, argsToLocals, Value.category]; done) | rfl
def f4 (q1 : Int64) : Int32 := (((((((((((((q1 &&& (1085102592571150095 : Int64)) * (2561 : Int64)).toUInt64 >>> ((8 : Int32) &&& 0x3f).toInt64.toUInt64).toInt64) &&& (71777214294589695 : Int64)) * (6553601 : Int64)).toUInt64 >>> ((16 : Int32) &&& 0x3f).toInt64.toUInt64).toInt64) &&& (281470681808895 : Int64)) * (42949672960001 : Int64)).toUInt64 >>> ((32 : Int32) &&& 0x3f).toInt64.toUInt64).toInt64).toInt32)
def Q4 (Z : State) (q1 : Int64) (h0 : Heap) (n0 : Nat) (v : Option Value) (h : Heap) (L : List Loc) : Prop := v = some (.int (f4 q1)) ∧ Fr n0 L ∧ h = h0
set_option maxRecDepth 65536 in
set_option maxHeartbeats 40000000 in
theorem rm4 (l : Launch) (Z : State) (a0 : Array Value) (hw : ∀ d ∈ tables_1, d.before a0 Z = true) (ws : List Jvm.Cond) (q1 : Int64) (h0 : Heap) (n0 : Nat) (Z0 : n0 ≤ h0.size) :
    MetFree l (⟨"com/example/loadstone/loadstone/ByteWords", "number", "(J)I"⟩ : MethodName) (head1 (Jvm.Cond.code (⟨"com/example/loadstone/loadstone/ByteWords", "number", "(J)I"⟩ : MethodName) prog_9_method_7_code 8 (some .int) :: ws) ({ frames := 0, cells := 0, slots := 0, locals := 0 } : Room)) (fun a U => a = #[(.long q1)] ∧ Z.Warmed39 U.vm ∧ U.heap = h0) (fun _ _ _ _ _ => True) (fun _ U o U' => ∃ v L, o = .returned v ∧ Q4 Z q1 h0 n0 v U'.heap L ∧ FrameEnd U o U' L ({ frames := 0, cells := 0, slots := 0, locals := 0 } : Room).cells ({ frames := 0, cells := 0, slots := 0, locals := 0 } : Room).slots) := by
  refine MetFree.of_bodySF (plainFor_of_name pn_4) hisR ?_
  intro p e s m args below meth c s₁ Bd hml0 hP hK
  obtain ⟨rfl, hZ, hh⟩ := hP
  have hx := Bd.exec
  have hby := Bd.bytes
  have hml : c.maxLocals = 8 := hml0
  have hown : s.vm.findClass "com/example/loadstone/loadstone/ByteWords" = some m.cls := findClass_of_methodNamed Bd.named
  have hnm := (name_of_methodNamed Bd.named Bd.method).1
  have X0 : Stand p l e ({ frames := 0, cells := 0, slots := 0, locals := 0 } : Room) s m #[(.long q1)] below meth c s₁ [] 0 0 := Stand.of_body Bd
  have e0 : s₁.heap = h0 := by rw [← hh, Bd.state]; rfl
  have N0 := Fr.nil n0
  have pre0 : ∀ t, Steps p.tables e below (s₁.setTop (mkF m 0 #[.val (.long q1), .second, .unset, .unset, .unset, .unset, .unset, .unset] [])) t → Steps p.tables e below (s₁.setTop (entryFrame m #[(.long q1)] 8)) t := fun t k => castTop (ef_4 m q1) k
  obtain ⟨fs, hr, hrun, hended, hW, hsame⟩ := X0.leave (v := some (.int (((((((((((((q1 &&& (1085102592571150095 : Int64)) * (2561 : Int64)).toUInt64 >>> ((8 : Int32) &&& 0x3f).toInt64.toUInt64).toInt64) &&& (71777214294589695 : Int64)) * (6553601 : Int64)).toUInt64 >>> ((16 : Int32) &&& 0x3f).toInt64.toUInt64).toInt64) &&& (281470681808895 : Int64)) * (42949672960001 : Int64)).toUInt64 >>> ((32 : Int32) &&& 0x3f).toInt64.toUInt64).toInt64).toInt32))) (fun h => by rw [Bd.returns] at h; cases h) (by first | exact BodyLoose.notSynchronized Bd | exact Body.notSynchronized Bd)
  refine ⟨_, _, pre0 _ ?_, hrun, hended, _, _, rfl, ?_, ⟨_, rfl⟩, hW, hsame.mono (by decide) (by decide)⟩
  · show Steps p.tables e below (s₁.setTop (mkF m 0 #[.val (.long q1), .second, .unset, .unset, .unset, .unset, .unset, .unset] [])) _
    refine XS.lloadN X0.here hx rfl (hb hby d4_0) rfl ?_
    show Steps p.tables e below (s₁.setTop (mkF m 1 _ [(.long q1)])) _
    refine X0.ldc2Long hx hown (mvT hZ (hw _ (List.mem_of_getElem? (i := 19) rfl))) (g := (mkF m 1 #[.val (.long q1), .second, .unset, .unset, .unset, .unset, .unset, .unset] [(.long q1)])) rfl (hb hby d4_1) _ ?_
    show Steps p.tables e below (s₁.setTop (mkF m 4 _ [(.long (1085102592571150095 : Int64)), (.long q1)])) _
    refine XS.land X0.here hx rfl (hb hby d4_4) rfl ?_
    show Steps p.tables e below (s₁.setTop (mkF m 5 _ [(.long (q1 &&& (1085102592571150095 : Int64)))])) _
    refine XS.lstoreN X0.here hx rfl (hb hby d4_5) rfl (l' := #[.val (.long q1), .second, .val (.long (q1 &&& (1085102592571150095 : Int64))), .second, .unset, .unset, .unset, .unset]) rfl ?_
    show Steps p.tables e below (s₁.setTop (mkF m 6 _ [])) _
    refine XS.lloadN X0.here hx rfl (hb hby d4_6) rfl ?_
    show Steps p.tables e below (s₁.setTop (mkF m 7 _ [(.long (q1 &&& (1085102592571150095 : Int64)))])) _
    refine X0.ldc2Long hx hown (mvT hZ (hw _ (List.mem_of_getElem? (i := 20) rfl))) (g := (mkF m 7 #[.val (.long q1), .second, .val (.long (q1 &&& (1085102592571150095 : Int64))), .second, .unset, .unset, .unset, .unset] [(.long (q1 &&& (1085102592571150095 : Int64)))])) rfl (hb hby d4_7) _ ?_
    show Steps p.tables e below (s₁.setTop (mkF m 10 _ [(.long (2561 : Int64)), (.long (q1 &&& (1085102592571150095 : Int64)))])) _
    refine XS.lmul X0.here hx rfl (hb hby d4_10) rfl ?_
    show Steps p.tables e below (s₁.setTop (mkF m 11 _ [(.long ((q1 &&& (1085102592571150095 : Int64)) * (2561 : Int64)))])) _
    refine XS.bipush X0.here hx rfl (hb hby d4_11) ?_
    show Steps p.tables e below (s₁.setTop (mkF m 13 _ [(.int (8 : Int32)), (.long ((q1 &&& (1085102592571150095 : Int64)) * (2561 : Int64)))])) _
    refine XS.lushr X0.here hx rfl (hb hby d4_13) rfl ?_
    show Steps p.tables e below (s₁.setTop (mkF m 14 _ [(.long ((((q1 &&& (1085102592571150095 : Int64)) * (2561 : Int64)).toUInt64 >>> ((8 : Int32) &&& 0x3f).toInt64.toUInt64).toInt64))])) _
    refine X0.ldc2Long hx hown (mvT hZ (hw _ (List.mem_of_getElem? (i := 21) rfl))) (g := (mkF m 14 #[.val (.long q1), .second, .val (.long (q1 &&& (1085102592571150095 : Int64))), .second, .unset, .unset, .unset, .unset] [(.long ((((q1 &&& (1085102592571150095 : Int64)) * (2561 : Int64)).toUInt64 >>> ((8 : Int32) &&& 0x3f).toInt64.toUInt64).toInt64))])) rfl (hb hby d4_14) _ ?_
    show Steps p.tables e below (s₁.setTop (mkF m 17 _ [(.long (71777214294589695 : Int64)), (.long ((((q1 &&& (1085102592571150095 : Int64)) * (2561 : Int64)).toUInt64 >>> ((8 : Int32) &&& 0x3f).toInt64.toUInt64).toInt64))])) _
    refine XS.land X0.here hx rfl (hb hby d4_17) rfl ?_
    show Steps p.tables e below (s₁.setTop (mkF m 18 _ [(.long (((((q1 &&& (1085102592571150095 : Int64)) * (2561 : Int64)).toUInt64 >>> ((8 : Int32) &&& 0x3f).toInt64.toUInt64).toInt64) &&& (71777214294589695 : Int64)))])) _
    refine XS.lstore X0.here hx rfl (hb hby d4_18) rfl (l' := #[.val (.long q1), .second, .val (.long (q1 &&& (1085102592571150095 : Int64))), .second, .val (.long (((((q1 &&& (1085102592571150095 : Int64)) * (2561 : Int64)).toUInt64 >>> ((8 : Int32) &&& 0x3f).toInt64.toUInt64).toInt64) &&& (71777214294589695 : Int64))), .second, .unset, .unset]) rfl ?_
    show Steps p.tables e below (s₁.setTop (mkF m 20 _ [])) _
    refine XS.lload X0.here hx rfl (hb hby d4_20) rfl ?_
    show Steps p.tables e below (s₁.setTop (mkF m 22 _ [(.long (((((q1 &&& (1085102592571150095 : Int64)) * (2561 : Int64)).toUInt64 >>> ((8 : Int32) &&& 0x3f).toInt64.toUInt64).toInt64) &&& (71777214294589695 : Int64)))])) _
    refine X0.ldc2Long hx hown (mvT hZ (hw _ (List.mem_of_getElem? (i := 22) rfl))) (g := (mkF m 22 #[.val (.long q1), .second, .val (.long (q1 &&& (1085102592571150095 : Int64))), .second, .val (.long (((((q1 &&& (1085102592571150095 : Int64)) * (2561 : Int64)).toUInt64 >>> ((8 : Int32) &&& 0x3f).toInt64.toUInt64).toInt64) &&& (71777214294589695 : Int64))), .second, .unset, .unset] [(.long (((((q1 &&& (1085102592571150095 : Int64)) * (2561 : Int64)).toUInt64 >>> ((8 : Int32) &&& 0x3f).toInt64.toUInt64).toInt64) &&& (71777214294589695 : Int64)))])) rfl (hb hby d4_22) _ ?_
    show Steps p.tables e below (s₁.setTop (mkF m 25 _ [(.long (6553601 : Int64)), (.long (((((q1 &&& (1085102592571150095 : Int64)) * (2561 : Int64)).toUInt64 >>> ((8 : Int32) &&& 0x3f).toInt64.toUInt64).toInt64) &&& (71777214294589695 : Int64)))])) _
    refine XS.lmul X0.here hx rfl (hb hby d4_25) rfl ?_
    show Steps p.tables e below (s₁.setTop (mkF m 26 _ [(.long ((((((q1 &&& (1085102592571150095 : Int64)) * (2561 : Int64)).toUInt64 >>> ((8 : Int32) &&& 0x3f).toInt64.toUInt64).toInt64) &&& (71777214294589695 : Int64)) * (6553601 : Int64)))])) _
    refine XS.bipush X0.here hx rfl (hb hby d4_26) ?_
    show Steps p.tables e below (s₁.setTop (mkF m 28 _ [(.int (16 : Int32)), (.long ((((((q1 &&& (1085102592571150095 : Int64)) * (2561 : Int64)).toUInt64 >>> ((8 : Int32) &&& 0x3f).toInt64.toUInt64).toInt64) &&& (71777214294589695 : Int64)) * (6553601 : Int64)))])) _
    refine XS.lushr X0.here hx rfl (hb hby d4_28) rfl ?_
    show Steps p.tables e below (s₁.setTop (mkF m 29 _ [(.long ((((((((q1 &&& (1085102592571150095 : Int64)) * (2561 : Int64)).toUInt64 >>> ((8 : Int32) &&& 0x3f).toInt64.toUInt64).toInt64) &&& (71777214294589695 : Int64)) * (6553601 : Int64)).toUInt64 >>> ((16 : Int32) &&& 0x3f).toInt64.toUInt64).toInt64))])) _
    refine X0.ldc2Long hx hown (mvT hZ (hw _ (List.mem_of_getElem? (i := 23) rfl))) (g := (mkF m 29 #[.val (.long q1), .second, .val (.long (q1 &&& (1085102592571150095 : Int64))), .second, .val (.long (((((q1 &&& (1085102592571150095 : Int64)) * (2561 : Int64)).toUInt64 >>> ((8 : Int32) &&& 0x3f).toInt64.toUInt64).toInt64) &&& (71777214294589695 : Int64))), .second, .unset, .unset] [(.long ((((((((q1 &&& (1085102592571150095 : Int64)) * (2561 : Int64)).toUInt64 >>> ((8 : Int32) &&& 0x3f).toInt64.toUInt64).toInt64) &&& (71777214294589695 : Int64)) * (6553601 : Int64)).toUInt64 >>> ((16 : Int32) &&& 0x3f).toInt64.toUInt64).toInt64))])) rfl (hb hby d4_29) _ ?_
    show Steps p.tables e below (s₁.setTop (mkF m 32 _ [(.long (281470681808895 : Int64)), (.long ((((((((q1 &&& (1085102592571150095 : Int64)) * (2561 : Int64)).toUInt64 >>> ((8 : Int32) &&& 0x3f).toInt64.toUInt64).toInt64) &&& (71777214294589695 : Int64)) * (6553601 : Int64)).toUInt64 >>> ((16 : Int32) &&& 0x3f).toInt64.toUInt64).toInt64))])) _
    refine XS.land X0.here hx rfl (hb hby d4_32) rfl ?_
    show Steps p.tables e below (s₁.setTop (mkF m 33 _ [(.long (((((((((q1 &&& (1085102592571150095 : Int64)) * (2561 : Int64)).toUInt64 >>> ((8 : Int32) &&& 0x3f).toInt64.toUInt64).toInt64) &&& (71777214294589695 : Int64)) * (6553601 : Int64)).toUInt64 >>> ((16 : Int32) &&& 0x3f).toInt64.toUInt64).toInt64) &&& (281470681808895 : Int64)))])) _
    refine XS.lstore X0.here hx rfl (hb hby d4_33) rfl (l' := #[.val (.long q1), .second, .val (.long (q1 &&& (1085102592571150095 : Int64))), .second, .val (.long (((((q1 &&& (1085102592571150095 : Int64)) * (2561 : Int64)).toUInt64 >>> ((8 : Int32) &&& 0x3f).toInt64.toUInt64).toInt64) &&& (71777214294589695 : Int64))), .second, .val (.long (((((((((q1 &&& (1085102592571150095 : Int64)) * (2561 : Int64)).toUInt64 >>> ((8 : Int32) &&& 0x3f).toInt64.toUInt64).toInt64) &&& (71777214294589695 : Int64)) * (6553601 : Int64)).toUInt64 >>> ((16 : Int32) &&& 0x3f).toInt64.toUInt64).toInt64) &&& (281470681808895 : Int64))), .second]) rfl ?_
    show Steps p.tables e below (s₁.setTop (mkF m 35 _ [])) _
    refine XS.lload X0.here hx rfl (hb hby d4_35) rfl ?_
    show Steps p.tables e below (s₁.setTop (mkF m 37 _ [(.long (((((((((q1 &&& (1085102592571150095 : Int64)) * (2561 : Int64)).toUInt64 >>> ((8 : Int32) &&& 0x3f).toInt64.toUInt64).toInt64) &&& (71777214294589695 : Int64)) * (6553601 : Int64)).toUInt64 >>> ((16 : Int32) &&& 0x3f).toInt64.toUInt64).toInt64) &&& (281470681808895 : Int64)))])) _
    refine X0.ldc2Long hx hown (mvT hZ (hw _ (List.mem_of_getElem? (i := 24) rfl))) (g := (mkF m 37 #[.val (.long q1), .second, .val (.long (q1 &&& (1085102592571150095 : Int64))), .second, .val (.long (((((q1 &&& (1085102592571150095 : Int64)) * (2561 : Int64)).toUInt64 >>> ((8 : Int32) &&& 0x3f).toInt64.toUInt64).toInt64) &&& (71777214294589695 : Int64))), .second, .val (.long (((((((((q1 &&& (1085102592571150095 : Int64)) * (2561 : Int64)).toUInt64 >>> ((8 : Int32) &&& 0x3f).toInt64.toUInt64).toInt64) &&& (71777214294589695 : Int64)) * (6553601 : Int64)).toUInt64 >>> ((16 : Int32) &&& 0x3f).toInt64.toUInt64).toInt64) &&& (281470681808895 : Int64))), .second] [(.long (((((((((q1 &&& (1085102592571150095 : Int64)) * (2561 : Int64)).toUInt64 >>> ((8 : Int32) &&& 0x3f).toInt64.toUInt64).toInt64) &&& (71777214294589695 : Int64)) * (6553601 : Int64)).toUInt64 >>> ((16 : Int32) &&& 0x3f).toInt64.toUInt64).toInt64) &&& (281470681808895 : Int64)))])) rfl (hb hby d4_37) _ ?_
    show Steps p.tables e below (s₁.setTop (mkF m 40 _ [(.long (42949672960001 : Int64)), (.long (((((((((q1 &&& (1085102592571150095 : Int64)) * (2561 : Int64)).toUInt64 >>> ((8 : Int32) &&& 0x3f).toInt64.toUInt64).toInt64) &&& (71777214294589695 : Int64)) * (6553601 : Int64)).toUInt64 >>> ((16 : Int32) &&& 0x3f).toInt64.toUInt64).toInt64) &&& (281470681808895 : Int64)))])) _
    refine XS.lmul X0.here hx rfl (hb hby d4_40) rfl ?_
    show Steps p.tables e below (s₁.setTop (mkF m 41 _ [(.long ((((((((((q1 &&& (1085102592571150095 : Int64)) * (2561 : Int64)).toUInt64 >>> ((8 : Int32) &&& 0x3f).toInt64.toUInt64).toInt64) &&& (71777214294589695 : Int64)) * (6553601 : Int64)).toUInt64 >>> ((16 : Int32) &&& 0x3f).toInt64.toUInt64).toInt64) &&& (281470681808895 : Int64)) * (42949672960001 : Int64)))])) _
    refine XS.bipush X0.here hx rfl (hb hby d4_41) ?_
    show Steps p.tables e below (s₁.setTop (mkF m 43 _ [(.int (32 : Int32)), (.long ((((((((((q1 &&& (1085102592571150095 : Int64)) * (2561 : Int64)).toUInt64 >>> ((8 : Int32) &&& 0x3f).toInt64.toUInt64).toInt64) &&& (71777214294589695 : Int64)) * (6553601 : Int64)).toUInt64 >>> ((16 : Int32) &&& 0x3f).toInt64.toUInt64).toInt64) &&& (281470681808895 : Int64)) * (42949672960001 : Int64)))])) _
    refine XS.lushr X0.here hx rfl (hb hby d4_43) rfl ?_
    show Steps p.tables e below (s₁.setTop (mkF m 44 _ [(.long ((((((((((((q1 &&& (1085102592571150095 : Int64)) * (2561 : Int64)).toUInt64 >>> ((8 : Int32) &&& 0x3f).toInt64.toUInt64).toInt64) &&& (71777214294589695 : Int64)) * (6553601 : Int64)).toUInt64 >>> ((16 : Int32) &&& 0x3f).toInt64.toUInt64).toInt64) &&& (281470681808895 : Int64)) * (42949672960001 : Int64)).toUInt64 >>> ((32 : Int32) &&& 0x3f).toInt64.toUInt64).toInt64))])) _
    refine XS.l2i X0.here hx rfl (hb hby d4_44) rfl ?_
    show Steps p.tables e below (s₁.setTop (mkF m 45 #[.val (.long q1), .second, .val (.long (q1 &&& (1085102592571150095 : Int64))), .second, .val (.long (((((q1 &&& (1085102592571150095 : Int64)) * (2561 : Int64)).toUInt64 >>> ((8 : Int32) &&& 0x3f).toInt64.toUInt64).toInt64) &&& (71777214294589695 : Int64))), .second, .val (.long (((((((((q1 &&& (1085102592571150095 : Int64)) * (2561 : Int64)).toUInt64 >>> ((8 : Int32) &&& 0x3f).toInt64.toUInt64).toInt64) &&& (71777214294589695 : Int64)) * (6553601 : Int64)).toUInt64 >>> ((16 : Int32) &&& 0x3f).toInt64.toUInt64).toInt64) &&& (281470681808895 : Int64))), .second] [(.int (((((((((((((q1 &&& (1085102592571150095 : Int64)) * (2561 : Int64)).toUInt64 >>> ((8 : Int32) &&& 0x3f).toInt64.toUInt64).toInt64) &&& (71777214294589695 : Int64)) * (6553601 : Int64)).toUInt64 >>> ((16 : Int32) &&& 0x3f).toInt64.toUInt64).toInt64) &&& (281470681808895 : Int64)) * (42949672960001 : Int64)).toUInt64 >>> ((32 : Int32) &&& 0x3f).toInt64.toUInt64).toInt64).toInt32))])) _
    exact retI X0 hx Bd.returns (hb hby d4_45) hr
  · show Q4 Z q1 h0 n0 _ s₁.heap _
    rw [e0]
    exact ⟨congrArg (fun z => some (Value.int z)) (by rw [f4] : f4 q1 = (((((((((((((q1 &&& (1085102592571150095 : Int64)) * (2561 : Int64)).toUInt64 >>> ((8 : Int32) &&& 0x3f).toInt64.toUInt64).toInt64) &&& (71777214294589695 : Int64)) * (6553601 : Int64)).toUInt64 >>> ((16 : Int32) &&& 0x3f).toInt64.toUInt64).toInt64) &&& (281470681808895 : Int64)) * (42949672960001 : Int64)).toUInt64 >>> ((32 : Int32) &&& 0x3f).toInt64.toUInt64).toInt64).toInt32)).symm, N0, rfl⟩
theorem pn_0 : plainName "com/example/loadstone/loadstone/ByteWordsNumberPinLaw" = true := by first | (simp [plainName, overriddenIn]; done) | decide +kernel
theorem pd_0_0 : parseMethodDescriptor "(III)J" = some ⟨[.int, .int, .int], some .long⟩ := by decide +kernel
theorem pd_0_2 : parseMethodDescriptor "(III)I" = some ⟨[.int, .int, .int], some .int⟩ := by decide +kernel
theorem pd_0_3 : parseMethodDescriptor "(J)I" = some ⟨[.long], some .int⟩ := by decide +kernel
theorem ef_0 (m : MethodId) (x0 : Int32) (x1 : Int32) (x2 : Int32) (x3 : Int32) (x4 : Int32) : entryFrame m #[(.int x0), (.int x1), (.int x2), (.int x3), (.int x4)] maxLocals = mkF m 0 #[.val (.int x0), .val (.int x1), .val (.int x2), .val (.int x3), .val (.int x4), .unset, .unset, .unset, .unset, .unset, .unset, .unset, .unset, .unset, .unset, .unset, .unset, .unset, .unset, .unset, .unset, .unset, .unset, .unset, .unset, .unset, .unset, .unset] [] := by first | (simp [entryFrame, mkF, argsToLocals, Value.category, maxLocals]; done) | rfl
def f0 (p1 : Int32) (p2 : Int32) (p3 : Int32) (p4 : Int32) (p5 : Int32) : Int32 := (if (f4 ((((((((f1 (own_h p1) p5 (0 : Int32)) ||| (f1 (own_l p1) p5 (1 : Int32))) ||| (f1 (own_h p2) p5 (2 : Int32))) ||| (f1 (own_l p2) p5 (3 : Int32))) ||| (f1 (own_h p3) p5 (4 : Int32))) ||| (f1 (own_l p3) p5 (5 : Int32))) ||| (f1 (own_h p4) p5 (6 : Int32))) ||| (f1 (own_l p4) p5 (7 : Int32)))) = (((((((((f3 (own_h p1) p5 (0 : Int32)) * (10000000 : Int32)) + ((f3 (own_l p1) p5 (1 : Int32)) * (1000000 : Int32))) + ((f3 (own_h p2) p5 (2 : Int32)) * (100000 : Int32))) + ((f3 (own_l p2) p5 (3 : Int32)) * (10000 : Int32))) + ((f3 (own_h p3) p5 (4 : Int32)) * (1000 : Int32))) + ((f3 (own_l p3) p5 (5 : Int32)) * (100 : Int32))) + ((f3 (own_h p4) p5 (6 : Int32)) * (10 : Int32))) + (f3 (own_l p4) p5 (7 : Int32))) then (1 : Int32) else (0 : Int32))
def Q0 (Z : State) (p1 : Int32) (p2 : Int32) (p3 : Int32) (p4 : Int32) (p5 : Int32) (h0 : Heap) (n0 : Nat) (v : Option Value) (h : Heap) (L : List Loc) : Prop := v = some (.int (f0 p1 p2 p3 p4 p5)) ∧ Fr n0 L
set_option maxRecDepth 65536 in
set_option maxHeartbeats 40000000 in
theorem rm0 (l : Launch) (Z : State) (a0 : Array Value) (hw : ∀ d ∈ tables_1, d.before a0 Z = true) (ws : List Jvm.Cond) (p1 : Int32) (p2 : Int32) (p3 : Int32) (p4 : Int32) (p5 : Int32) (h0 : Heap) (n0 : Nat) (Z0 : n0 ≤ h0.size) :
    MetFree l x (head1 (Jvm.Cond.code x code maxLocals ret :: ws) room_1) (fun a U => a = #[(.int p1), (.int p2), (.int p3), (.int p4), (.int p5)] ∧ Z.Warmed39 U.vm ∧ U.heap = h0) (fun _ _ _ _ _ => True) (fun _ U o U' => ∃ v L, o = .returned v ∧ Q0 Z p1 p2 p3 p4 p5 h0 n0 v U'.heap L ∧ FrameEnd U o U' L room_1.cells room_1.slots) := by
  refine MetFree.of_bodySF (plainFor_of_name pn_0) hisR ?_
  intro p e s m args below meth c s₁ Bd hml0 hP hK
  obtain ⟨rfl, hZ, hh⟩ := hP
  have hx := Bd.exec
  have hby := Bd.bytes
  have hml : c.maxLocals = 28 := hml0
  have hown : s.vm.findClass "com/example/loadstone/loadstone/ByteWordsNumberPinLaw" = some m.cls := findClass_of_methodNamed Bd.named
  have hnm := (name_of_methodNamed Bd.named Bd.method).1
  have X0 : Stand p l e room_1 s m #[(.int p1), (.int p2), (.int p3), (.int p4), (.int p5)] below meth c s₁ [] 0 0 := Stand.of_body Bd
  have e0 : s₁.heap = h0 := by rw [← hh, Bd.state]; rfl
  have N0 := Fr.nil n0
  have pre0 : ∀ t, Steps p.tables e below (s₁.setTop (mkF m 0 #[.val (.int p1), .val (.int p2), .val (.int p3), .val (.int p4), .val (.int p5), .unset, .unset, .unset, .unset, .unset, .unset, .unset, .unset, .unset, .unset, .unset, .unset, .unset, .unset, .unset, .unset, .unset, .unset, .unset, .unset, .unset, .unset, .unset] [])) t → Steps p.tables e below (s₁.setTop (entryFrame m #[(.int p1), (.int p2), (.int p3), (.int p4), (.int p5)] maxLocals)) t := fun t k => castTop (ef_0 m p1 p2 p3 p4 p5) k
  obtain ⟨_, _, ⟨T6, L6, k6, n6⟩, -, X6, ⟨Lc6, hQ6, l6, y6, z6⟩, st6⟩ := Jvm.LawKit.callS X0 hx (y := (⟨"com/example/loadstone/loadstone/ByteWordsNumberPinLaw", "place", "(III)J"⟩ : MethodName)) hown (mvT hZ (hw _ (List.mem_of_getElem? (i := 1) rfl))) (mvT hZ (hw _ (List.mem_of_getElem? (i := 2) rfl))) (mvT hZ (hw _ (List.mem_of_getElem? (i := 3) rfl))) (mvT hZ (hw _ (List.mem_of_getElem? (i := 4) rfl))) (by decide) (backOf (W := 0) (rm1 l Z a0 hw [] (own_h p1) p5 (0 : Int32) h0 n0 Z0 ) hZ (hw _ (List.mem_of_getElem? (i := 4) rfl)) (hw _ (List.mem_of_getElem? (i := 3) rfl)) (by decide) (by decide)) (g := (mkF m 97 #[.val (.int p1), .val (.int p2), .val (.int p3), .val (.int p4), .val (.int p5), .val (.int (own_a p1)), .val (.int (own_a p2)), .val (.int (own_a p3)), .val (.int (own_a p4)), .val (.int (own_h p1)), .val (.int (own_l p1)), .val (.int (own_h p2)), .val (.int (own_l p2)), .val (.int (own_h p3)), .val (.int (own_l p3)), .val (.int (own_h p4)), .val (.int (own_l p4)), .unset, .unset, .unset, .unset, .unset, .unset, .unset, .unset, .unset, .unset, .unset] [(.int (0 : Int32)), (.int p5), (.int (own_h p1))])) rfl (by rw [hml]; rfl) (argsL := [(.int (own_h p1)), (.int p5), (.int (0 : Int32))]) (rest := []) (lenOf pd_0_0 rfl) rfl (by show 2 * 0 + _ ≤ _; exact Nat.le_of_eq rfl) (hb hby at_97) (fun _ _ => ⟨rfl, e0, (by decide : 0 + 0 ≤ _), (by decide : 0 + 0 ≤ _)⟩)
  dsimp only [Pt.U, Pt.locs, Pt.cells, Pt.slots] at X6 l6 y6 z6 st6 hQ6
  subst l6 y6 z6
  obtain ⟨rfl, N6q, e6⟩ := hQ6
  have N6 := Fr.app N0 N6q
  obtain ⟨_, _, ⟨T7, L7, k7, n7⟩, -, X7, ⟨Lc7, hQ7, l7, y7, z7⟩, st7⟩ := Jvm.LawKit.callS X6 hx (y := (⟨"com/example/loadstone/loadstone/ByteWordsNumberPinLaw", "place", "(III)J"⟩ : MethodName)) hown (mvT hZ (hw _ (List.mem_of_getElem? (i := 1) rfl))) (mvT hZ (hw _ (List.mem_of_getElem? (i := 2) rfl))) (mvT hZ (hw _ (List.mem_of_getElem? (i := 3) rfl))) (mvT hZ (hw _ (List.mem_of_getElem? (i := 4) rfl))) (by decide) (backOf (W := 2) (rm1 l Z a0 hw [] (own_l p1) p5 (1 : Int32) h0 n0 Z0 ) hZ (hw _ (List.mem_of_getElem? (i := 4) rfl)) (hw _ (List.mem_of_getElem? (i := 3) rfl)) (by decide) (by decide)) (g := (mkF m 105 #[.val (.int p1), .val (.int p2), .val (.int p3), .val (.int p4), .val (.int p5), .val (.int (own_a p1)), .val (.int (own_a p2)), .val (.int (own_a p3)), .val (.int (own_a p4)), .val (.int (own_h p1)), .val (.int (own_l p1)), .val (.int (own_h p2)), .val (.int (own_l p2)), .val (.int (own_h p3)), .val (.int (own_l p3)), .val (.int (own_h p4)), .val (.int (own_l p4)), .unset, .unset, .unset, .unset, .unset, .unset, .unset, .unset, .unset, .unset, .unset] [(.int (1 : Int32)), (.int p5), (.int (own_l p1)), (.long (f1 (own_h p1) p5 (0 : Int32)))])) rfl (by rw [hml]; rfl) (argsL := [(.int (own_l p1)), (.int p5), (.int (1 : Int32))]) (rest := [(.long (f1 (own_h p1) p5 (0 : Int32)))]) (lenOf pd_0_0 rfl) rfl (by show 2 * 0 + _ ≤ _; exact Nat.le_of_eq rfl) (hb hby at_105) (fun _ _ => ⟨rfl, e6, (by decide : 0 + 0 ≤ _), (by decide : 0 + 0 ≤ _)⟩)
  dsimp only [Pt.U, Pt.locs, Pt.cells, Pt.slots] at X7 l7 y7 z7 st7 hQ7
  subst l7 y7 z7
  obtain ⟨rfl, N7q, e7⟩ := hQ7
  have N7 := Fr.app N6 N7q
  obtain ⟨_, _, ⟨T8, L8, k8, n8⟩, -, X8, ⟨Lc8, hQ8, l8, y8, z8⟩, st8⟩ := Jvm.LawKit.callS X7 hx (y := (⟨"com/example/loadstone/loadstone/ByteWordsNumberPinLaw", "place", "(III)J"⟩ : MethodName)) hown (mvT hZ (hw _ (List.mem_of_getElem? (i := 1) rfl))) (mvT hZ (hw _ (List.mem_of_getElem? (i := 2) rfl))) (mvT hZ (hw _ (List.mem_of_getElem? (i := 3) rfl))) (mvT hZ (hw _ (List.mem_of_getElem? (i := 4) rfl))) (by decide) (backOf (W := 2) (rm1 l Z a0 hw [] (own_h p2) p5 (2 : Int32) h0 n0 Z0 ) hZ (hw _ (List.mem_of_getElem? (i := 4) rfl)) (hw _ (List.mem_of_getElem? (i := 3) rfl)) (by decide) (by decide)) (g := (mkF m 114 #[.val (.int p1), .val (.int p2), .val (.int p3), .val (.int p4), .val (.int p5), .val (.int (own_a p1)), .val (.int (own_a p2)), .val (.int (own_a p3)), .val (.int (own_a p4)), .val (.int (own_h p1)), .val (.int (own_l p1)), .val (.int (own_h p2)), .val (.int (own_l p2)), .val (.int (own_h p3)), .val (.int (own_l p3)), .val (.int (own_h p4)), .val (.int (own_l p4)), .unset, .unset, .unset, .unset, .unset, .unset, .unset, .unset, .unset, .unset, .unset] [(.int (2 : Int32)), (.int p5), (.int (own_h p2)), (.long ((f1 (own_h p1) p5 (0 : Int32)) ||| (f1 (own_l p1) p5 (1 : Int32))))])) rfl (by rw [hml]; rfl) (argsL := [(.int (own_h p2)), (.int p5), (.int (2 : Int32))]) (rest := [(.long ((f1 (own_h p1) p5 (0 : Int32)) ||| (f1 (own_l p1) p5 (1 : Int32))))]) (lenOf pd_0_0 rfl) rfl (by show 2 * 0 + _ ≤ _; exact Nat.le_of_eq rfl) (hb hby at_114) (fun _ _ => ⟨rfl, e7, (by decide : 0 + 0 ≤ _), (by decide : 0 + 0 ≤ _)⟩)
  dsimp only [Pt.U, Pt.locs, Pt.cells, Pt.slots] at X8 l8 y8 z8 st8 hQ8
  subst l8 y8 z8
  obtain ⟨rfl, N8q, e8⟩ := hQ8
  have N8 := Fr.app N7 N8q
  obtain ⟨_, _, ⟨T9, L9, k9, n9⟩, -, X9, ⟨Lc9, hQ9, l9, y9, z9⟩, st9⟩ := Jvm.LawKit.callS X8 hx (y := (⟨"com/example/loadstone/loadstone/ByteWordsNumberPinLaw", "place", "(III)J"⟩ : MethodName)) hown (mvT hZ (hw _ (List.mem_of_getElem? (i := 1) rfl))) (mvT hZ (hw _ (List.mem_of_getElem? (i := 2) rfl))) (mvT hZ (hw _ (List.mem_of_getElem? (i := 3) rfl))) (mvT hZ (hw _ (List.mem_of_getElem? (i := 4) rfl))) (by decide) (backOf (W := 2) (rm1 l Z a0 hw [] (own_l p2) p5 (3 : Int32) h0 n0 Z0 ) hZ (hw _ (List.mem_of_getElem? (i := 4) rfl)) (hw _ (List.mem_of_getElem? (i := 3) rfl)) (by decide) (by decide)) (g := (mkF m 123 #[.val (.int p1), .val (.int p2), .val (.int p3), .val (.int p4), .val (.int p5), .val (.int (own_a p1)), .val (.int (own_a p2)), .val (.int (own_a p3)), .val (.int (own_a p4)), .val (.int (own_h p1)), .val (.int (own_l p1)), .val (.int (own_h p2)), .val (.int (own_l p2)), .val (.int (own_h p3)), .val (.int (own_l p3)), .val (.int (own_h p4)), .val (.int (own_l p4)), .unset, .unset, .unset, .unset, .unset, .unset, .unset, .unset, .unset, .unset, .unset] [(.int (3 : Int32)), (.int p5), (.int (own_l p2)), (.long (((f1 (own_h p1) p5 (0 : Int32)) ||| (f1 (own_l p1) p5 (1 : Int32))) ||| (f1 (own_h p2) p5 (2 : Int32))))])) rfl (by rw [hml]; rfl) (argsL := [(.int (own_l p2)), (.int p5), (.int (3 : Int32))]) (rest := [(.long (((f1 (own_h p1) p5 (0 : Int32)) ||| (f1 (own_l p1) p5 (1 : Int32))) ||| (f1 (own_h p2) p5 (2 : Int32))))]) (lenOf pd_0_0 rfl) rfl (by show 2 * 0 + _ ≤ _; exact Nat.le_of_eq rfl) (hb hby at_123) (fun _ _ => ⟨rfl, e8, (by decide : 0 + 0 ≤ _), (by decide : 0 + 0 ≤ _)⟩)
  dsimp only [Pt.U, Pt.locs, Pt.cells, Pt.slots] at X9 l9 y9 z9 st9 hQ9
  subst l9 y9 z9
  obtain ⟨rfl, N9q, e9⟩ := hQ9
  have N9 := Fr.app N8 N9q
  obtain ⟨_, _, ⟨T10, L10, k10, n10⟩, -, X10, ⟨Lc10, hQ10, l10, y10, z10⟩, st10⟩ := Jvm.LawKit.callS X9 hx (y := (⟨"com/example/loadstone/loadstone/ByteWordsNumberPinLaw", "place", "(III)J"⟩ : MethodName)) hown (mvT hZ (hw _ (List.mem_of_getElem? (i := 1) rfl))) (mvT hZ (hw _ (List.mem_of_getElem? (i := 2) rfl))) (mvT hZ (hw _ (List.mem_of_getElem? (i := 3) rfl))) (mvT hZ (hw _ (List.mem_of_getElem? (i := 4) rfl))) (by decide) (backOf (W := 2) (rm1 l Z a0 hw [] (own_h p3) p5 (4 : Int32) h0 n0 Z0 ) hZ (hw _ (List.mem_of_getElem? (i := 4) rfl)) (hw _ (List.mem_of_getElem? (i := 3) rfl)) (by decide) (by decide)) (g := (mkF m 132 #[.val (.int p1), .val (.int p2), .val (.int p3), .val (.int p4), .val (.int p5), .val (.int (own_a p1)), .val (.int (own_a p2)), .val (.int (own_a p3)), .val (.int (own_a p4)), .val (.int (own_h p1)), .val (.int (own_l p1)), .val (.int (own_h p2)), .val (.int (own_l p2)), .val (.int (own_h p3)), .val (.int (own_l p3)), .val (.int (own_h p4)), .val (.int (own_l p4)), .unset, .unset, .unset, .unset, .unset, .unset, .unset, .unset, .unset, .unset, .unset] [(.int (4 : Int32)), (.int p5), (.int (own_h p3)), (.long ((((f1 (own_h p1) p5 (0 : Int32)) ||| (f1 (own_l p1) p5 (1 : Int32))) ||| (f1 (own_h p2) p5 (2 : Int32))) ||| (f1 (own_l p2) p5 (3 : Int32))))])) rfl (by rw [hml]; rfl) (argsL := [(.int (own_h p3)), (.int p5), (.int (4 : Int32))]) (rest := [(.long ((((f1 (own_h p1) p5 (0 : Int32)) ||| (f1 (own_l p1) p5 (1 : Int32))) ||| (f1 (own_h p2) p5 (2 : Int32))) ||| (f1 (own_l p2) p5 (3 : Int32))))]) (lenOf pd_0_0 rfl) rfl (by show 2 * 0 + _ ≤ _; exact Nat.le_of_eq rfl) (hb hby at_132) (fun _ _ => ⟨rfl, e9, (by decide : 0 + 0 ≤ _), (by decide : 0 + 0 ≤ _)⟩)
  dsimp only [Pt.U, Pt.locs, Pt.cells, Pt.slots] at X10 l10 y10 z10 st10 hQ10
  subst l10 y10 z10
  obtain ⟨rfl, N10q, e10⟩ := hQ10
  have N10 := Fr.app N9 N10q
  obtain ⟨_, _, ⟨T11, L11, k11, n11⟩, -, X11, ⟨Lc11, hQ11, l11, y11, z11⟩, st11⟩ := Jvm.LawKit.callS X10 hx (y := (⟨"com/example/loadstone/loadstone/ByteWordsNumberPinLaw", "place", "(III)J"⟩ : MethodName)) hown (mvT hZ (hw _ (List.mem_of_getElem? (i := 1) rfl))) (mvT hZ (hw _ (List.mem_of_getElem? (i := 2) rfl))) (mvT hZ (hw _ (List.mem_of_getElem? (i := 3) rfl))) (mvT hZ (hw _ (List.mem_of_getElem? (i := 4) rfl))) (by decide) (backOf (W := 2) (rm1 l Z a0 hw [] (own_l p3) p5 (5 : Int32) h0 n0 Z0 ) hZ (hw _ (List.mem_of_getElem? (i := 4) rfl)) (hw _ (List.mem_of_getElem? (i := 3) rfl)) (by decide) (by decide)) (g := (mkF m 141 #[.val (.int p1), .val (.int p2), .val (.int p3), .val (.int p4), .val (.int p5), .val (.int (own_a p1)), .val (.int (own_a p2)), .val (.int (own_a p3)), .val (.int (own_a p4)), .val (.int (own_h p1)), .val (.int (own_l p1)), .val (.int (own_h p2)), .val (.int (own_l p2)), .val (.int (own_h p3)), .val (.int (own_l p3)), .val (.int (own_h p4)), .val (.int (own_l p4)), .unset, .unset, .unset, .unset, .unset, .unset, .unset, .unset, .unset, .unset, .unset] [(.int (5 : Int32)), (.int p5), (.int (own_l p3)), (.long (((((f1 (own_h p1) p5 (0 : Int32)) ||| (f1 (own_l p1) p5 (1 : Int32))) ||| (f1 (own_h p2) p5 (2 : Int32))) ||| (f1 (own_l p2) p5 (3 : Int32))) ||| (f1 (own_h p3) p5 (4 : Int32))))])) rfl (by rw [hml]; rfl) (argsL := [(.int (own_l p3)), (.int p5), (.int (5 : Int32))]) (rest := [(.long (((((f1 (own_h p1) p5 (0 : Int32)) ||| (f1 (own_l p1) p5 (1 : Int32))) ||| (f1 (own_h p2) p5 (2 : Int32))) ||| (f1 (own_l p2) p5 (3 : Int32))) ||| (f1 (own_h p3) p5 (4 : Int32))))]) (lenOf pd_0_0 rfl) rfl (by show 2 * 0 + _ ≤ _; exact Nat.le_of_eq rfl) (hb hby at_141) (fun _ _ => ⟨rfl, e10, (by decide : 0 + 0 ≤ _), (by decide : 0 + 0 ≤ _)⟩)
  dsimp only [Pt.U, Pt.locs, Pt.cells, Pt.slots] at X11 l11 y11 z11 st11 hQ11
  subst l11 y11 z11
  obtain ⟨rfl, N11q, e11⟩ := hQ11
  have N11 := Fr.app N10 N11q
  obtain ⟨_, _, ⟨T12, L12, k12, n12⟩, -, X12, ⟨Lc12, hQ12, l12, y12, z12⟩, st12⟩ := Jvm.LawKit.callS X11 hx (y := (⟨"com/example/loadstone/loadstone/ByteWordsNumberPinLaw", "place", "(III)J"⟩ : MethodName)) hown (mvT hZ (hw _ (List.mem_of_getElem? (i := 1) rfl))) (mvT hZ (hw _ (List.mem_of_getElem? (i := 2) rfl))) (mvT hZ (hw _ (List.mem_of_getElem? (i := 3) rfl))) (mvT hZ (hw _ (List.mem_of_getElem? (i := 4) rfl))) (by decide) (backOf (W := 2) (rm1 l Z a0 hw [] (own_h p4) p5 (6 : Int32) h0 n0 Z0 ) hZ (hw _ (List.mem_of_getElem? (i := 4) rfl)) (hw _ (List.mem_of_getElem? (i := 3) rfl)) (by decide) (by decide)) (g := (mkF m 151 #[.val (.int p1), .val (.int p2), .val (.int p3), .val (.int p4), .val (.int p5), .val (.int (own_a p1)), .val (.int (own_a p2)), .val (.int (own_a p3)), .val (.int (own_a p4)), .val (.int (own_h p1)), .val (.int (own_l p1)), .val (.int (own_h p2)), .val (.int (own_l p2)), .val (.int (own_h p3)), .val (.int (own_l p3)), .val (.int (own_h p4)), .val (.int (own_l p4)), .unset, .unset, .unset, .unset, .unset, .unset, .unset, .unset, .unset, .unset, .unset] [(.int (6 : Int32)), (.int p5), (.int (own_h p4)), (.long ((((((f1 (own_h p1) p5 (0 : Int32)) ||| (f1 (own_l p1) p5 (1 : Int32))) ||| (f1 (own_h p2) p5 (2 : Int32))) ||| (f1 (own_l p2) p5 (3 : Int32))) ||| (f1 (own_h p3) p5 (4 : Int32))) ||| (f1 (own_l p3) p5 (5 : Int32))))])) rfl (by rw [hml]; rfl) (argsL := [(.int (own_h p4)), (.int p5), (.int (6 : Int32))]) (rest := [(.long ((((((f1 (own_h p1) p5 (0 : Int32)) ||| (f1 (own_l p1) p5 (1 : Int32))) ||| (f1 (own_h p2) p5 (2 : Int32))) ||| (f1 (own_l p2) p5 (3 : Int32))) ||| (f1 (own_h p3) p5 (4 : Int32))) ||| (f1 (own_l p3) p5 (5 : Int32))))]) (lenOf pd_0_0 rfl) rfl (by show 2 * 0 + _ ≤ _; exact Nat.le_of_eq rfl) (hb hby at_151) (fun _ _ => ⟨rfl, e11, (by decide : 0 + 0 ≤ _), (by decide : 0 + 0 ≤ _)⟩)
  dsimp only [Pt.U, Pt.locs, Pt.cells, Pt.slots] at X12 l12 y12 z12 st12 hQ12
  subst l12 y12 z12
  obtain ⟨rfl, N12q, e12⟩ := hQ12
  have N12 := Fr.app N11 N12q
  obtain ⟨_, _, ⟨T13, L13, k13, n13⟩, -, X13, ⟨Lc13, hQ13, l13, y13, z13⟩, st13⟩ := Jvm.LawKit.callS X12 hx (y := (⟨"com/example/loadstone/loadstone/ByteWordsNumberPinLaw", "place", "(III)J"⟩ : MethodName)) hown (mvT hZ (hw _ (List.mem_of_getElem? (i := 1) rfl))) (mvT hZ (hw _ (List.mem_of_getElem? (i := 2) rfl))) (mvT hZ (hw _ (List.mem_of_getElem? (i := 3) rfl))) (mvT hZ (hw _ (List.mem_of_getElem? (i := 4) rfl))) (by decide) (backOf (W := 2) (rm1 l Z a0 hw [] (own_l p4) p5 (7 : Int32) h0 n0 Z0 ) hZ (hw _ (List.mem_of_getElem? (i := 4) rfl)) (hw _ (List.mem_of_getElem? (i := 3) rfl)) (by decide) (by decide)) (g := (mkF m 161 #[.val (.int p1), .val (.int p2), .val (.int p3), .val (.int p4), .val (.int p5), .val (.int (own_a p1)), .val (.int (own_a p2)), .val (.int (own_a p3)), .val (.int (own_a p4)), .val (.int (own_h p1)), .val (.int (own_l p1)), .val (.int (own_h p2)), .val (.int (own_l p2)), .val (.int (own_h p3)), .val (.int (own_l p3)), .val (.int (own_h p4)), .val (.int (own_l p4)), .unset, .unset, .unset, .unset, .unset, .unset, .unset, .unset, .unset, .unset, .unset] [(.int (7 : Int32)), (.int p5), (.int (own_l p4)), (.long (((((((f1 (own_h p1) p5 (0 : Int32)) ||| (f1 (own_l p1) p5 (1 : Int32))) ||| (f1 (own_h p2) p5 (2 : Int32))) ||| (f1 (own_l p2) p5 (3 : Int32))) ||| (f1 (own_h p3) p5 (4 : Int32))) ||| (f1 (own_l p3) p5 (5 : Int32))) ||| (f1 (own_h p4) p5 (6 : Int32))))])) rfl (by rw [hml]; rfl) (argsL := [(.int (own_l p4)), (.int p5), (.int (7 : Int32))]) (rest := [(.long (((((((f1 (own_h p1) p5 (0 : Int32)) ||| (f1 (own_l p1) p5 (1 : Int32))) ||| (f1 (own_h p2) p5 (2 : Int32))) ||| (f1 (own_l p2) p5 (3 : Int32))) ||| (f1 (own_h p3) p5 (4 : Int32))) ||| (f1 (own_l p3) p5 (5 : Int32))) ||| (f1 (own_h p4) p5 (6 : Int32))))]) (lenOf pd_0_0 rfl) rfl (by show 2 * 0 + _ ≤ _; exact Nat.le_of_eq rfl) (hb hby at_161) (fun _ _ => ⟨rfl, e12, (by decide : 0 + 0 ≤ _), (by decide : 0 + 0 ≤ _)⟩)
  dsimp only [Pt.U, Pt.locs, Pt.cells, Pt.slots] at X13 l13 y13 z13 st13 hQ13
  subst l13 y13 z13
  obtain ⟨rfl, N13q, e13⟩ := hQ13
  have N13 := Fr.app N12 N13q
  obtain ⟨_, _, ⟨T14, L14, k14, n14⟩, -, X14, ⟨Lc14, hQ14, l14, y14, z14⟩, st14⟩ := Jvm.LawKit.callS X13 hx (y := (⟨"com/example/loadstone/loadstone/ByteWordsNumberPinLaw", "digit", "(III)I"⟩ : MethodName)) hown (mvT hZ (hw _ (List.mem_of_getElem? (i := 9) rfl))) (mvT hZ (hw _ (List.mem_of_getElem? (i := 10) rfl))) (mvT hZ (hw _ (List.mem_of_getElem? (i := 3) rfl))) (mvT hZ (hw _ (List.mem_of_getElem? (i := 11) rfl))) (by decide) (backOf (W := 0) (rm3 l Z a0 hw [] (own_h p1) p5 (0 : Int32) h0 n0 Z0 ) hZ (hw _ (List.mem_of_getElem? (i := 11) rfl)) (hw _ (List.mem_of_getElem? (i := 3) rfl)) (by decide) (by decide)) (g := (mkF m 172 #[.val (.int p1), .val (.int p2), .val (.int p3), .val (.int p4), .val (.int p5), .val (.int (own_a p1)), .val (.int (own_a p2)), .val (.int (own_a p3)), .val (.int (own_a p4)), .val (.int (own_h p1)), .val (.int (own_l p1)), .val (.int (own_h p2)), .val (.int (own_l p2)), .val (.int (own_h p3)), .val (.int (own_l p3)), .val (.int (own_h p4)), .val (.int (own_l p4)), .val (.long ((((((((f1 (own_h p1) p5 (0 : Int32)) ||| (f1 (own_l p1) p5 (1 : Int32))) ||| (f1 (own_h p2) p5 (2 : Int32))) ||| (f1 (own_l p2) p5 (3 : Int32))) ||| (f1 (own_h p3) p5 (4 : Int32))) ||| (f1 (own_l p3) p5 (5 : Int32))) ||| (f1 (own_h p4) p5 (6 : Int32))) ||| (f1 (own_l p4) p5 (7 : Int32)))), .second, .unset, .unset, .unset, .unset, .unset, .unset, .unset, .unset, .unset] [(.int (0 : Int32)), (.int p5), (.int (own_h p1))])) rfl (by rw [hml]; rfl) (argsL := [(.int (own_h p1)), (.int p5), (.int (0 : Int32))]) (rest := []) (lenOf pd_0_2 rfl) rfl (by show 2 * 0 + _ ≤ _; exact Nat.le_of_eq rfl) (hb hby at_172) (fun _ _ => ⟨rfl, e13, (by decide : 0 + 0 ≤ _), (by decide : 0 + 0 ≤ _)⟩)
  dsimp only [Pt.U, Pt.locs, Pt.cells, Pt.slots] at X14 l14 y14 z14 st14 hQ14
  subst l14 y14 z14
  obtain ⟨rfl, N14q, e14⟩ := hQ14
  have N14 := Fr.app N13 N14q
  obtain ⟨_, _, ⟨T15, L15, k15, n15⟩, -, X15, ⟨Lc15, hQ15, l15, y15, z15⟩, st15⟩ := Jvm.LawKit.callS X14 hx (y := (⟨"com/example/loadstone/loadstone/ByteWordsNumberPinLaw", "digit", "(III)I"⟩ : MethodName)) hown (mvT hZ (hw _ (List.mem_of_getElem? (i := 9) rfl))) (mvT hZ (hw _ (List.mem_of_getElem? (i := 10) rfl))) (mvT hZ (hw _ (List.mem_of_getElem? (i := 3) rfl))) (mvT hZ (hw _ (List.mem_of_getElem? (i := 11) rfl))) (by decide) (backOf (W := 0) (rm3 l Z a0 hw [] (own_l p1) p5 (1 : Int32) h0 n0 Z0 ) hZ (hw _ (List.mem_of_getElem? (i := 11) rfl)) (hw _ (List.mem_of_getElem? (i := 3) rfl)) (by decide) (by decide)) (g := (mkF m 182 #[.val (.int p1), .val (.int p2), .val (.int p3), .val (.int p4), .val (.int p5), .val (.int (own_a p1)), .val (.int (own_a p2)), .val (.int (own_a p3)), .val (.int (own_a p4)), .val (.int (own_h p1)), .val (.int (own_l p1)), .val (.int (own_h p2)), .val (.int (own_l p2)), .val (.int (own_h p3)), .val (.int (own_l p3)), .val (.int (own_h p4)), .val (.int (own_l p4)), .val (.long ((((((((f1 (own_h p1) p5 (0 : Int32)) ||| (f1 (own_l p1) p5 (1 : Int32))) ||| (f1 (own_h p2) p5 (2 : Int32))) ||| (f1 (own_l p2) p5 (3 : Int32))) ||| (f1 (own_h p3) p5 (4 : Int32))) ||| (f1 (own_l p3) p5 (5 : Int32))) ||| (f1 (own_h p4) p5 (6 : Int32))) ||| (f1 (own_l p4) p5 (7 : Int32)))), .second, .val (.int (f3 (own_h p1) p5 (0 : Int32))), .unset, .unset, .unset, .unset, .unset, .unset, .unset, .unset] [(.int (1 : Int32)), (.int p5), (.int (own_l p1))])) rfl (by rw [hml]; rfl) (argsL := [(.int (own_l p1)), (.int p5), (.int (1 : Int32))]) (rest := []) (lenOf pd_0_2 rfl) rfl (by show 2 * 0 + _ ≤ _; exact Nat.le_of_eq rfl) (hb hby at_182) (fun _ _ => ⟨rfl, e14, (by decide : 0 + 0 ≤ _), (by decide : 0 + 0 ≤ _)⟩)
  dsimp only [Pt.U, Pt.locs, Pt.cells, Pt.slots] at X15 l15 y15 z15 st15 hQ15
  subst l15 y15 z15
  obtain ⟨rfl, N15q, e15⟩ := hQ15
  have N15 := Fr.app N14 N15q
  obtain ⟨_, _, ⟨T16, L16, k16, n16⟩, -, X16, ⟨Lc16, hQ16, l16, y16, z16⟩, st16⟩ := Jvm.LawKit.callS X15 hx (y := (⟨"com/example/loadstone/loadstone/ByteWordsNumberPinLaw", "digit", "(III)I"⟩ : MethodName)) hown (mvT hZ (hw _ (List.mem_of_getElem? (i := 9) rfl))) (mvT hZ (hw _ (List.mem_of_getElem? (i := 10) rfl))) (mvT hZ (hw _ (List.mem_of_getElem? (i := 3) rfl))) (mvT hZ (hw _ (List.mem_of_getElem? (i := 11) rfl))) (by decide) (backOf (W := 0) (rm3 l Z a0 hw [] (own_h p2) p5 (2 : Int32) h0 n0 Z0 ) hZ (hw _ (List.mem_of_getElem? (i := 11) rfl)) (hw _ (List.mem_of_getElem? (i := 3) rfl)) (by decide) (by decide)) (g := (mkF m 192 #[.val (.int p1), .val (.int p2), .val (.int p3), .val (.int p4), .val (.int p5), .val (.int (own_a p1)), .val (.int (own_a p2)), .val (.int (own_a p3)), .val (.int (own_a p4)), .val (.int (own_h p1)), .val (.int (own_l p1)), .val (.int (own_h p2)), .val (.int (own_l p2)), .val (.int (own_h p3)), .val (.int (own_l p3)), .val (.int (own_h p4)), .val (.int (own_l p4)), .val (.long ((((((((f1 (own_h p1) p5 (0 : Int32)) ||| (f1 (own_l p1) p5 (1 : Int32))) ||| (f1 (own_h p2) p5 (2 : Int32))) ||| (f1 (own_l p2) p5 (3 : Int32))) ||| (f1 (own_h p3) p5 (4 : Int32))) ||| (f1 (own_l p3) p5 (5 : Int32))) ||| (f1 (own_h p4) p5 (6 : Int32))) ||| (f1 (own_l p4) p5 (7 : Int32)))), .second, .val (.int (f3 (own_h p1) p5 (0 : Int32))), .val (.int (f3 (own_l p1) p5 (1 : Int32))), .unset, .unset, .unset, .unset, .unset, .unset, .unset] [(.int (2 : Int32)), (.int p5), (.int (own_h p2))])) rfl (by rw [hml]; rfl) (argsL := [(.int (own_h p2)), (.int p5), (.int (2 : Int32))]) (rest := []) (lenOf pd_0_2 rfl) rfl (by show 2 * 0 + _ ≤ _; exact Nat.le_of_eq rfl) (hb hby at_192) (fun _ _ => ⟨rfl, e15, (by decide : 0 + 0 ≤ _), (by decide : 0 + 0 ≤ _)⟩)
  dsimp only [Pt.U, Pt.locs, Pt.cells, Pt.slots] at X16 l16 y16 z16 st16 hQ16
  subst l16 y16 z16
  obtain ⟨rfl, N16q, e16⟩ := hQ16
  have N16 := Fr.app N15 N16q
  obtain ⟨_, _, ⟨T17, L17, k17, n17⟩, -, X17, ⟨Lc17, hQ17, l17, y17, z17⟩, st17⟩ := Jvm.LawKit.callS X16 hx (y := (⟨"com/example/loadstone/loadstone/ByteWordsNumberPinLaw", "digit", "(III)I"⟩ : MethodName)) hown (mvT hZ (hw _ (List.mem_of_getElem? (i := 9) rfl))) (mvT hZ (hw _ (List.mem_of_getElem? (i := 10) rfl))) (mvT hZ (hw _ (List.mem_of_getElem? (i := 3) rfl))) (mvT hZ (hw _ (List.mem_of_getElem? (i := 11) rfl))) (by decide) (backOf (W := 0) (rm3 l Z a0 hw [] (own_l p2) p5 (3 : Int32) h0 n0 Z0 ) hZ (hw _ (List.mem_of_getElem? (i := 11) rfl)) (hw _ (List.mem_of_getElem? (i := 3) rfl)) (by decide) (by decide)) (g := (mkF m 202 #[.val (.int p1), .val (.int p2), .val (.int p3), .val (.int p4), .val (.int p5), .val (.int (own_a p1)), .val (.int (own_a p2)), .val (.int (own_a p3)), .val (.int (own_a p4)), .val (.int (own_h p1)), .val (.int (own_l p1)), .val (.int (own_h p2)), .val (.int (own_l p2)), .val (.int (own_h p3)), .val (.int (own_l p3)), .val (.int (own_h p4)), .val (.int (own_l p4)), .val (.long ((((((((f1 (own_h p1) p5 (0 : Int32)) ||| (f1 (own_l p1) p5 (1 : Int32))) ||| (f1 (own_h p2) p5 (2 : Int32))) ||| (f1 (own_l p2) p5 (3 : Int32))) ||| (f1 (own_h p3) p5 (4 : Int32))) ||| (f1 (own_l p3) p5 (5 : Int32))) ||| (f1 (own_h p4) p5 (6 : Int32))) ||| (f1 (own_l p4) p5 (7 : Int32)))), .second, .val (.int (f3 (own_h p1) p5 (0 : Int32))), .val (.int (f3 (own_l p1) p5 (1 : Int32))), .val (.int (f3 (own_h p2) p5 (2 : Int32))), .unset, .unset, .unset, .unset, .unset, .unset] [(.int (3 : Int32)), (.int p5), (.int (own_l p2))])) rfl (by rw [hml]; rfl) (argsL := [(.int (own_l p2)), (.int p5), (.int (3 : Int32))]) (rest := []) (lenOf pd_0_2 rfl) rfl (by show 2 * 0 + _ ≤ _; exact Nat.le_of_eq rfl) (hb hby at_202) (fun _ _ => ⟨rfl, e16, (by decide : 0 + 0 ≤ _), (by decide : 0 + 0 ≤ _)⟩)
  dsimp only [Pt.U, Pt.locs, Pt.cells, Pt.slots] at X17 l17 y17 z17 st17 hQ17
  subst l17 y17 z17
  obtain ⟨rfl, N17q, e17⟩ := hQ17
  have N17 := Fr.app N16 N17q
  obtain ⟨_, _, ⟨T18, L18, k18, n18⟩, -, X18, ⟨Lc18, hQ18, l18, y18, z18⟩, st18⟩ := Jvm.LawKit.callS X17 hx (y := (⟨"com/example/loadstone/loadstone/ByteWordsNumberPinLaw", "digit", "(III)I"⟩ : MethodName)) hown (mvT hZ (hw _ (List.mem_of_getElem? (i := 9) rfl))) (mvT hZ (hw _ (List.mem_of_getElem? (i := 10) rfl))) (mvT hZ (hw _ (List.mem_of_getElem? (i := 3) rfl))) (mvT hZ (hw _ (List.mem_of_getElem? (i := 11) rfl))) (by decide) (backOf (W := 0) (rm3 l Z a0 hw [] (own_h p3) p5 (4 : Int32) h0 n0 Z0 ) hZ (hw _ (List.mem_of_getElem? (i := 11) rfl)) (hw _ (List.mem_of_getElem? (i := 3) rfl)) (by decide) (by decide)) (g := (mkF m 212 #[.val (.int p1), .val (.int p2), .val (.int p3), .val (.int p4), .val (.int p5), .val (.int (own_a p1)), .val (.int (own_a p2)), .val (.int (own_a p3)), .val (.int (own_a p4)), .val (.int (own_h p1)), .val (.int (own_l p1)), .val (.int (own_h p2)), .val (.int (own_l p2)), .val (.int (own_h p3)), .val (.int (own_l p3)), .val (.int (own_h p4)), .val (.int (own_l p4)), .val (.long ((((((((f1 (own_h p1) p5 (0 : Int32)) ||| (f1 (own_l p1) p5 (1 : Int32))) ||| (f1 (own_h p2) p5 (2 : Int32))) ||| (f1 (own_l p2) p5 (3 : Int32))) ||| (f1 (own_h p3) p5 (4 : Int32))) ||| (f1 (own_l p3) p5 (5 : Int32))) ||| (f1 (own_h p4) p5 (6 : Int32))) ||| (f1 (own_l p4) p5 (7 : Int32)))), .second, .val (.int (f3 (own_h p1) p5 (0 : Int32))), .val (.int (f3 (own_l p1) p5 (1 : Int32))), .val (.int (f3 (own_h p2) p5 (2 : Int32))), .val (.int (f3 (own_l p2) p5 (3 : Int32))), .unset, .unset, .unset, .unset, .unset] [(.int (4 : Int32)), (.int p5), (.int (own_h p3))])) rfl (by rw [hml]; rfl) (argsL := [(.int (own_h p3)), (.int p5), (.int (4 : Int32))]) (rest := []) (lenOf pd_0_2 rfl) rfl (by show 2 * 0 + _ ≤ _; exact Nat.le_of_eq rfl) (hb hby at_212) (fun _ _ => ⟨rfl, e17, (by decide : 0 + 0 ≤ _), (by decide : 0 + 0 ≤ _)⟩)
  dsimp only [Pt.U, Pt.locs, Pt.cells, Pt.slots] at X18 l18 y18 z18 st18 hQ18
  subst l18 y18 z18
  obtain ⟨rfl, N18q, e18⟩ := hQ18
  have N18 := Fr.app N17 N18q
  obtain ⟨_, _, ⟨T19, L19, k19, n19⟩, -, X19, ⟨Lc19, hQ19, l19, y19, z19⟩, st19⟩ := Jvm.LawKit.callS X18 hx (y := (⟨"com/example/loadstone/loadstone/ByteWordsNumberPinLaw", "digit", "(III)I"⟩ : MethodName)) hown (mvT hZ (hw _ (List.mem_of_getElem? (i := 9) rfl))) (mvT hZ (hw _ (List.mem_of_getElem? (i := 10) rfl))) (mvT hZ (hw _ (List.mem_of_getElem? (i := 3) rfl))) (mvT hZ (hw _ (List.mem_of_getElem? (i := 11) rfl))) (by decide) (backOf (W := 0) (rm3 l Z a0 hw [] (own_l p3) p5 (5 : Int32) h0 n0 Z0 ) hZ (hw _ (List.mem_of_getElem? (i := 11) rfl)) (hw _ (List.mem_of_getElem? (i := 3) rfl)) (by decide) (by decide)) (g := (mkF m 222 #[.val (.int p1), .val (.int p2), .val (.int p3), .val (.int p4), .val (.int p5), .val (.int (own_a p1)), .val (.int (own_a p2)), .val (.int (own_a p3)), .val (.int (own_a p4)), .val (.int (own_h p1)), .val (.int (own_l p1)), .val (.int (own_h p2)), .val (.int (own_l p2)), .val (.int (own_h p3)), .val (.int (own_l p3)), .val (.int (own_h p4)), .val (.int (own_l p4)), .val (.long ((((((((f1 (own_h p1) p5 (0 : Int32)) ||| (f1 (own_l p1) p5 (1 : Int32))) ||| (f1 (own_h p2) p5 (2 : Int32))) ||| (f1 (own_l p2) p5 (3 : Int32))) ||| (f1 (own_h p3) p5 (4 : Int32))) ||| (f1 (own_l p3) p5 (5 : Int32))) ||| (f1 (own_h p4) p5 (6 : Int32))) ||| (f1 (own_l p4) p5 (7 : Int32)))), .second, .val (.int (f3 (own_h p1) p5 (0 : Int32))), .val (.int (f3 (own_l p1) p5 (1 : Int32))), .val (.int (f3 (own_h p2) p5 (2 : Int32))), .val (.int (f3 (own_l p2) p5 (3 : Int32))), .val (.int (f3 (own_h p3) p5 (4 : Int32))), .unset, .unset, .unset, .unset] [(.int (5 : Int32)), (.int p5), (.int (own_l p3))])) rfl (by rw [hml]; rfl) (argsL := [(.int (own_l p3)), (.int p5), (.int (5 : Int32))]) (rest := []) (lenOf pd_0_2 rfl) rfl (by show 2 * 0 + _ ≤ _; exact Nat.le_of_eq rfl) (hb hby at_222) (fun _ _ => ⟨rfl, e18, (by decide : 0 + 0 ≤ _), (by decide : 0 + 0 ≤ _)⟩)
  dsimp only [Pt.U, Pt.locs, Pt.cells, Pt.slots] at X19 l19 y19 z19 st19 hQ19
  subst l19 y19 z19
  obtain ⟨rfl, N19q, e19⟩ := hQ19
  have N19 := Fr.app N18 N19q
  obtain ⟨_, _, ⟨T20, L20, k20, n20⟩, -, X20, ⟨Lc20, hQ20, l20, y20, z20⟩, st20⟩ := Jvm.LawKit.callS X19 hx (y := (⟨"com/example/loadstone/loadstone/ByteWordsNumberPinLaw", "digit", "(III)I"⟩ : MethodName)) hown (mvT hZ (hw _ (List.mem_of_getElem? (i := 9) rfl))) (mvT hZ (hw _ (List.mem_of_getElem? (i := 10) rfl))) (mvT hZ (hw _ (List.mem_of_getElem? (i := 3) rfl))) (mvT hZ (hw _ (List.mem_of_getElem? (i := 11) rfl))) (by decide) (backOf (W := 0) (rm3 l Z a0 hw [] (own_h p4) p5 (6 : Int32) h0 n0 Z0 ) hZ (hw _ (List.mem_of_getElem? (i := 11) rfl)) (hw _ (List.mem_of_getElem? (i := 3) rfl)) (by decide) (by decide)) (g := (mkF m 233 #[.val (.int p1), .val (.int p2), .val (.int p3), .val (.int p4), .val (.int p5), .val (.int (own_a p1)), .val (.int (own_a p2)), .val (.int (own_a p3)), .val (.int (own_a p4)), .val (.int (own_h p1)), .val (.int (own_l p1)), .val (.int (own_h p2)), .val (.int (own_l p2)), .val (.int (own_h p3)), .val (.int (own_l p3)), .val (.int (own_h p4)), .val (.int (own_l p4)), .val (.long ((((((((f1 (own_h p1) p5 (0 : Int32)) ||| (f1 (own_l p1) p5 (1 : Int32))) ||| (f1 (own_h p2) p5 (2 : Int32))) ||| (f1 (own_l p2) p5 (3 : Int32))) ||| (f1 (own_h p3) p5 (4 : Int32))) ||| (f1 (own_l p3) p5 (5 : Int32))) ||| (f1 (own_h p4) p5 (6 : Int32))) ||| (f1 (own_l p4) p5 (7 : Int32)))), .second, .val (.int (f3 (own_h p1) p5 (0 : Int32))), .val (.int (f3 (own_l p1) p5 (1 : Int32))), .val (.int (f3 (own_h p2) p5 (2 : Int32))), .val (.int (f3 (own_l p2) p5 (3 : Int32))), .val (.int (f3 (own_h p3) p5 (4 : Int32))), .val (.int (f3 (own_l p3) p5 (5 : Int32))), .unset, .unset, .unset] [(.int (6 : Int32)), (.int p5), (.int (own_h p4))])) rfl (by rw [hml]; rfl) (argsL := [(.int (own_h p4)), (.int p5), (.int (6 : Int32))]) (rest := []) (lenOf pd_0_2 rfl) rfl (by show 2 * 0 + _ ≤ _; exact Nat.le_of_eq rfl) (hb hby at_233) (fun _ _ => ⟨rfl, e19, (by decide : 0 + 0 ≤ _), (by decide : 0 + 0 ≤ _)⟩)
  dsimp only [Pt.U, Pt.locs, Pt.cells, Pt.slots] at X20 l20 y20 z20 st20 hQ20
  subst l20 y20 z20
  obtain ⟨rfl, N20q, e20⟩ := hQ20
  have N20 := Fr.app N19 N20q
  obtain ⟨_, _, ⟨T21, L21, k21, n21⟩, -, X21, ⟨Lc21, hQ21, l21, y21, z21⟩, st21⟩ := Jvm.LawKit.callS X20 hx (y := (⟨"com/example/loadstone/loadstone/ByteWordsNumberPinLaw", "digit", "(III)I"⟩ : MethodName)) hown (mvT hZ (hw _ (List.mem_of_getElem? (i := 9) rfl))) (mvT hZ (hw _ (List.mem_of_getElem? (i := 10) rfl))) (mvT hZ (hw _ (List.mem_of_getElem? (i := 3) rfl))) (mvT hZ (hw _ (List.mem_of_getElem? (i := 11) rfl))) (by decide) (backOf (W := 0) (rm3 l Z a0 hw [] (own_l p4) p5 (7 : Int32) h0 n0 Z0 ) hZ (hw _ (List.mem_of_getElem? (i := 11) rfl)) (hw _ (List.mem_of_getElem? (i := 3) rfl)) (by decide) (by decide)) (g := (mkF m 244 #[.val (.int p1), .val (.int p2), .val (.int p3), .val (.int p4), .val (.int p5), .val (.int (own_a p1)), .val (.int (own_a p2)), .val (.int (own_a p3)), .val (.int (own_a p4)), .val (.int (own_h p1)), .val (.int (own_l p1)), .val (.int (own_h p2)), .val (.int (own_l p2)), .val (.int (own_h p3)), .val (.int (own_l p3)), .val (.int (own_h p4)), .val (.int (own_l p4)), .val (.long ((((((((f1 (own_h p1) p5 (0 : Int32)) ||| (f1 (own_l p1) p5 (1 : Int32))) ||| (f1 (own_h p2) p5 (2 : Int32))) ||| (f1 (own_l p2) p5 (3 : Int32))) ||| (f1 (own_h p3) p5 (4 : Int32))) ||| (f1 (own_l p3) p5 (5 : Int32))) ||| (f1 (own_h p4) p5 (6 : Int32))) ||| (f1 (own_l p4) p5 (7 : Int32)))), .second, .val (.int (f3 (own_h p1) p5 (0 : Int32))), .val (.int (f3 (own_l p1) p5 (1 : Int32))), .val (.int (f3 (own_h p2) p5 (2 : Int32))), .val (.int (f3 (own_l p2) p5 (3 : Int32))), .val (.int (f3 (own_h p3) p5 (4 : Int32))), .val (.int (f3 (own_l p3) p5 (5 : Int32))), .val (.int (f3 (own_h p4) p5 (6 : Int32))), .unset, .unset] [(.int (7 : Int32)), (.int p5), (.int (own_l p4))])) rfl (by rw [hml]; rfl) (argsL := [(.int (own_l p4)), (.int p5), (.int (7 : Int32))]) (rest := []) (lenOf pd_0_2 rfl) rfl (by show 2 * 0 + _ ≤ _; exact Nat.le_of_eq rfl) (hb hby at_244) (fun _ _ => ⟨rfl, e20, (by decide : 0 + 0 ≤ _), (by decide : 0 + 0 ≤ _)⟩)
  dsimp only [Pt.U, Pt.locs, Pt.cells, Pt.slots] at X21 l21 y21 z21 st21 hQ21
  subst l21 y21 z21
  obtain ⟨rfl, N21q, e21⟩ := hQ21
  have N21 := Fr.app N20 N21q
  obtain ⟨_, _, ⟨T22, L22, k22, n22⟩, -, X22, ⟨Lc22, hQ22, l22, y22, z22⟩, st22⟩ := Jvm.LawKit.callS X21 hx (y := (⟨"com/example/loadstone/loadstone/ByteWords", "number", "(J)I"⟩ : MethodName)) hown (mvT hZ (hw _ (List.mem_of_getElem? (i := 15) rfl))) (mvT hZ (hw _ (List.mem_of_getElem? (i := 16) rfl))) (mvT hZ (hw _ (List.mem_of_getElem? (i := 17) rfl))) (mvT hZ (hw _ (List.mem_of_getElem? (i := 18) rfl))) (by decide) (backOf (W := 0) (rm4 l Z a0 hw [] ((((((((f1 (own_h p1) p5 (0 : Int32)) ||| (f1 (own_l p1) p5 (1 : Int32))) ||| (f1 (own_h p2) p5 (2 : Int32))) ||| (f1 (own_l p2) p5 (3 : Int32))) ||| (f1 (own_h p3) p5 (4 : Int32))) ||| (f1 (own_l p3) p5 (5 : Int32))) ||| (f1 (own_h p4) p5 (6 : Int32))) ||| (f1 (own_l p4) p5 (7 : Int32))) h0 n0 Z0 ) hZ (hw _ (List.mem_of_getElem? (i := 18) rfl)) (hw _ (List.mem_of_getElem? (i := 17) rfl)) (by decide) (by decide)) (g := (mkF m 299 #[.val (.int p1), .val (.int p2), .val (.int p3), .val (.int p4), .val (.int p5), .val (.int (own_a p1)), .val (.int (own_a p2)), .val (.int (own_a p3)), .val (.int (own_a p4)), .val (.int (own_h p1)), .val (.int (own_l p1)), .val (.int (own_h p2)), .val (.int (own_l p2)), .val (.int (own_h p3)), .val (.int (own_l p3)), .val (.int (own_h p4)), .val (.int (own_l p4)), .val (.long ((((((((f1 (own_h p1) p5 (0 : Int32)) ||| (f1 (own_l p1) p5 (1 : Int32))) ||| (f1 (own_h p2) p5 (2 : Int32))) ||| (f1 (own_l p2) p5 (3 : Int32))) ||| (f1 (own_h p3) p5 (4 : Int32))) ||| (f1 (own_l p3) p5 (5 : Int32))) ||| (f1 (own_h p4) p5 (6 : Int32))) ||| (f1 (own_l p4) p5 (7 : Int32)))), .second, .val (.int (f3 (own_h p1) p5 (0 : Int32))), .val (.int (f3 (own_l p1) p5 (1 : Int32))), .val (.int (f3 (own_h p2) p5 (2 : Int32))), .val (.int (f3 (own_l p2) p5 (3 : Int32))), .val (.int (f3 (own_h p3) p5 (4 : Int32))), .val (.int (f3 (own_l p3) p5 (5 : Int32))), .val (.int (f3 (own_h p4) p5 (6 : Int32))), .val (.int (f3 (own_l p4) p5 (7 : Int32))), .val (.int (((((((((f3 (own_h p1) p5 (0 : Int32)) * (10000000 : Int32)) + ((f3 (own_l p1) p5 (1 : Int32)) * (1000000 : Int32))) + ((f3 (own_h p2) p5 (2 : Int32)) * (100000 : Int32))) + ((f3 (own_l p2) p5 (3 : Int32)) * (10000 : Int32))) + ((f3 (own_h p3) p5 (4 : Int32)) * (1000 : Int32))) + ((f3 (own_l p3) p5 (5 : Int32)) * (100 : Int32))) + ((f3 (own_h p4) p5 (6 : Int32)) * (10 : Int32))) + (f3 (own_l p4) p5 (7 : Int32))))] [(.long ((((((((f1 (own_h p1) p5 (0 : Int32)) ||| (f1 (own_l p1) p5 (1 : Int32))) ||| (f1 (own_h p2) p5 (2 : Int32))) ||| (f1 (own_l p2) p5 (3 : Int32))) ||| (f1 (own_h p3) p5 (4 : Int32))) ||| (f1 (own_l p3) p5 (5 : Int32))) ||| (f1 (own_h p4) p5 (6 : Int32))) ||| (f1 (own_l p4) p5 (7 : Int32))))])) rfl (by rw [hml]; rfl) (argsL := [(.long ((((((((f1 (own_h p1) p5 (0 : Int32)) ||| (f1 (own_l p1) p5 (1 : Int32))) ||| (f1 (own_h p2) p5 (2 : Int32))) ||| (f1 (own_l p2) p5 (3 : Int32))) ||| (f1 (own_h p3) p5 (4 : Int32))) ||| (f1 (own_l p3) p5 (5 : Int32))) ||| (f1 (own_h p4) p5 (6 : Int32))) ||| (f1 (own_l p4) p5 (7 : Int32))))]) (rest := []) (lenOf pd_0_3 rfl) rfl (by show 2 * 0 + _ ≤ _; exact Nat.le_of_eq rfl) (hb hby at_299) (fun _ _ => ⟨rfl, e21, (by decide : 0 + 0 ≤ _), (by decide : 0 + 0 ≤ _)⟩)
  dsimp only [Pt.U, Pt.locs, Pt.cells, Pt.slots] at X22 l22 y22 z22 st22 hQ22
  subst l22 y22 z22
  obtain ⟨rfl, N22q, e22⟩ := hQ22
  have N22 := Fr.app N21 N22q
  have pre23 : ∀ t, Steps p.tables e below (T22.setTop (mkF m 304 #[.val (.int p1), .val (.int p2), .val (.int p3), .val (.int p4), .val (.int p5), .val (.int (own_a p1)), .val (.int (own_a p2)), .val (.int (own_a p3)), .val (.int (own_a p4)), .val (.int (own_h p1)), .val (.int (own_l p1)), .val (.int (own_h p2)), .val (.int (own_l p2)), .val (.int (own_h p3)), .val (.int (own_l p3)), .val (.int (own_h p4)), .val (.int (own_l p4)), .val (.long ((((((((f1 (own_h p1) p5 (0 : Int32)) ||| (f1 (own_l p1) p5 (1 : Int32))) ||| (f1 (own_h p2) p5 (2 : Int32))) ||| (f1 (own_l p2) p5 (3 : Int32))) ||| (f1 (own_h p3) p5 (4 : Int32))) ||| (f1 (own_l p3) p5 (5 : Int32))) ||| (f1 (own_h p4) p5 (6 : Int32))) ||| (f1 (own_l p4) p5 (7 : Int32)))), .second, .val (.int (f3 (own_h p1) p5 (0 : Int32))), .val (.int (f3 (own_l p1) p5 (1 : Int32))), .val (.int (f3 (own_h p2) p5 (2 : Int32))), .val (.int (f3 (own_l p2) p5 (3 : Int32))), .val (.int (f3 (own_h p3) p5 (4 : Int32))), .val (.int (f3 (own_l p3) p5 (5 : Int32))), .val (.int (f3 (own_h p4) p5 (6 : Int32))), .val (.int (f3 (own_l p4) p5 (7 : Int32))), .val (.int (((((((((f3 (own_h p1) p5 (0 : Int32)) * (10000000 : Int32)) + ((f3 (own_l p1) p5 (1 : Int32)) * (1000000 : Int32))) + ((f3 (own_h p2) p5 (2 : Int32)) * (100000 : Int32))) + ((f3 (own_l p2) p5 (3 : Int32)) * (10000 : Int32))) + ((f3 (own_h p3) p5 (4 : Int32)) * (1000 : Int32))) + ((f3 (own_l p3) p5 (5 : Int32)) * (100 : Int32))) + ((f3 (own_h p4) p5 (6 : Int32)) * (10 : Int32))) + (f3 (own_l p4) p5 (7 : Int32))))] [(.int (((((((((f3 (own_h p1) p5 (0 : Int32)) * (10000000 : Int32)) + ((f3 (own_l p1) p5 (1 : Int32)) * (1000000 : Int32))) + ((f3 (own_h p2) p5 (2 : Int32)) * (100000 : Int32))) + ((f3 (own_l p2) p5 (3 : Int32)) * (10000 : Int32))) + ((f3 (own_h p3) p5 (4 : Int32)) * (1000 : Int32))) + ((f3 (own_l p3) p5 (5 : Int32)) * (100 : Int32))) + ((f3 (own_h p4) p5 (6 : Int32)) * (10 : Int32))) + (f3 (own_l p4) p5 (7 : Int32)))), (.int (f4 ((((((((f1 (own_h p1) p5 (0 : Int32)) ||| (f1 (own_l p1) p5 (1 : Int32))) ||| (f1 (own_h p2) p5 (2 : Int32))) ||| (f1 (own_l p2) p5 (3 : Int32))) ||| (f1 (own_h p3) p5 (4 : Int32))) ||| (f1 (own_l p3) p5 (5 : Int32))) ||| (f1 (own_h p4) p5 (6 : Int32))) ||| (f1 (own_l p4) p5 (7 : Int32)))))])) t → Steps p.tables e below (s₁.setTop (entryFrame m #[(.int p1), (.int p2), (.int p3), (.int p4), (.int p5)] maxLocals)) t := fun t kt => by
    refine pre0 _ ?_
    show Steps p.tables e below (s₁.setTop (mkF m 0 #[.val (.int p1), .val (.int p2), .val (.int p3), .val (.int p4), .val (.int p5), .unset, .unset, .unset, .unset, .unset, .unset, .unset, .unset, .unset, .unset, .unset, .unset, .unset, .unset, .unset, .unset, .unset, .unset, .unset, .unset, .unset, .unset, .unset] [])) _
    refine XS.iloadN X0.here hx rfl (hb hby at_0) rfl ?_
    show Steps p.tables e below (s₁.setTop (mkF m 1 _ [(.int p1)])) _
    refine X0.ldcInt hx hown (mvT hZ (hw _ (List.mem_of_getElem? (i := 0) rfl))) (g := (mkF m 1 #[.val (.int p1), .val (.int p2), .val (.int p3), .val (.int p4), .val (.int p5), .unset, .unset, .unset, .unset, .unset, .unset, .unset, .unset, .unset, .unset, .unset, .unset, .unset, .unset, .unset, .unset, .unset, .unset, .unset, .unset, .unset, .unset, .unset] [(.int p1)])) rfl (hb hby at_1) _ ?_
    show Steps p.tables e below (s₁.setTop (mkF m 3 _ [(.int (2147483647 : Int32)), (.int p1)])) _
    refine XS.iand X0.here hx rfl (hb hby at_3) rfl ?_
    show Steps p.tables e below (s₁.setTop (mkF m 4 _ [(.int (p1 &&& (2147483647 : Int32)))])) _
    refine XS.bipush X0.here hx rfl (hb hby at_4) ?_
    show Steps p.tables e below (s₁.setTop (mkF m 6 _ [(.int (100 : Int32)), (.int (p1 &&& (2147483647 : Int32)))])) _
    refine XS.irem X0.here hx rfl (hb hby at_6) rfl (by decide) ?_
    show Steps p.tables e below (s₁.setTop (mkF m 7 _ [(.int (own_a p1))])) _
    refine XS.istore X0.here hx rfl (hb hby at_7) rfl (l' := #[.val (.int p1), .val (.int p2), .val (.int p3), .val (.int p4), .val (.int p5), .val (.int (own_a p1)), .unset, .unset, .unset, .unset, .unset, .unset, .unset, .unset, .unset, .unset, .unset, .unset, .unset, .unset, .unset, .unset, .unset, .unset, .unset, .unset, .unset, .unset]) rfl ?_
    show Steps p.tables e below (s₁.setTop (mkF m 9 _ [])) _
    refine XS.iloadN X0.here hx rfl (hb hby at_9) rfl ?_
    show Steps p.tables e below (s₁.setTop (mkF m 10 _ [(.int p2)])) _
    refine X0.ldcInt hx hown (mvT hZ (hw _ (List.mem_of_getElem? (i := 0) rfl))) (g := (mkF m 10 #[.val (.int p1), .val (.int p2), .val (.int p3), .val (.int p4), .val (.int p5), .val (.int (own_a p1)), .unset, .unset, .unset, .unset, .unset, .unset, .unset, .unset, .unset, .unset, .unset, .unset, .unset, .unset, .unset, .unset, .unset, .unset, .unset, .unset, .unset, .unset] [(.int p2)])) rfl (hb hby at_10) _ ?_
    show Steps p.tables e below (s₁.setTop (mkF m 12 _ [(.int (2147483647 : Int32)), (.int p2)])) _
    refine XS.iand X0.here hx rfl (hb hby at_12) rfl ?_
    show Steps p.tables e below (s₁.setTop (mkF m 13 _ [(.int (p2 &&& (2147483647 : Int32)))])) _
    refine XS.bipush X0.here hx rfl (hb hby at_13) ?_
    show Steps p.tables e below (s₁.setTop (mkF m 15 _ [(.int (100 : Int32)), (.int (p2 &&& (2147483647 : Int32)))])) _
    refine XS.irem X0.here hx rfl (hb hby at_15) rfl (by decide) ?_
    show Steps p.tables e below (s₁.setTop (mkF m 16 _ [(.int (own_a p2))])) _
    refine XS.istore X0.here hx rfl (hb hby at_16) rfl (l' := #[.val (.int p1), .val (.int p2), .val (.int p3), .val (.int p4), .val (.int p5), .val (.int (own_a p1)), .val (.int (own_a p2)), .unset, .unset, .unset, .unset, .unset, .unset, .unset, .unset, .unset, .unset, .unset, .unset, .unset, .unset, .unset, .unset, .unset, .unset, .unset, .unset, .unset]) rfl ?_
    show Steps p.tables e below (s₁.setTop (mkF m 18 _ [])) _
    refine XS.iloadN X0.here hx rfl (hb hby at_18) rfl ?_
    show Steps p.tables e below (s₁.setTop (mkF m 19 _ [(.int p3)])) _
    refine X0.ldcInt hx hown (mvT hZ (hw _ (List.mem_of_getElem? (i := 0) rfl))) (g := (mkF m 19 #[.val (.int p1), .val (.int p2), .val (.int p3), .val (.int p4), .val (.int p5), .val (.int (own_a p1)), .val (.int (own_a p2)), .unset, .unset, .unset, .unset, .unset, .unset, .unset, .unset, .unset, .unset, .unset, .unset, .unset, .unset, .unset, .unset, .unset, .unset, .unset, .unset, .unset] [(.int p3)])) rfl (hb hby at_19) _ ?_
    show Steps p.tables e below (s₁.setTop (mkF m 21 _ [(.int (2147483647 : Int32)), (.int p3)])) _
    refine XS.iand X0.here hx rfl (hb hby at_21) rfl ?_
    show Steps p.tables e below (s₁.setTop (mkF m 22 _ [(.int (p3 &&& (2147483647 : Int32)))])) _
    refine XS.bipush X0.here hx rfl (hb hby at_22) ?_
    show Steps p.tables e below (s₁.setTop (mkF m 24 _ [(.int (100 : Int32)), (.int (p3 &&& (2147483647 : Int32)))])) _
    refine XS.irem X0.here hx rfl (hb hby at_24) rfl (by decide) ?_
    show Steps p.tables e below (s₁.setTop (mkF m 25 _ [(.int (own_a p3))])) _
    refine XS.istore X0.here hx rfl (hb hby at_25) rfl (l' := #[.val (.int p1), .val (.int p2), .val (.int p3), .val (.int p4), .val (.int p5), .val (.int (own_a p1)), .val (.int (own_a p2)), .val (.int (own_a p3)), .unset, .unset, .unset, .unset, .unset, .unset, .unset, .unset, .unset, .unset, .unset, .unset, .unset, .unset, .unset, .unset, .unset, .unset, .unset, .unset]) rfl ?_
    show Steps p.tables e below (s₁.setTop (mkF m 27 _ [])) _
    refine XS.iloadN X0.here hx rfl (hb hby at_27) rfl ?_
    show Steps p.tables e below (s₁.setTop (mkF m 28 _ [(.int p4)])) _
    refine X0.ldcInt hx hown (mvT hZ (hw _ (List.mem_of_getElem? (i := 0) rfl))) (g := (mkF m 28 #[.val (.int p1), .val (.int p2), .val (.int p3), .val (.int p4), .val (.int p5), .val (.int (own_a p1)), .val (.int (own_a p2)), .val (.int (own_a p3)), .unset, .unset, .unset, .unset, .unset, .unset, .unset, .unset, .unset, .unset, .unset, .unset, .unset, .unset, .unset, .unset, .unset, .unset, .unset, .unset] [(.int p4)])) rfl (hb hby at_28) _ ?_
    show Steps p.tables e below (s₁.setTop (mkF m 30 _ [(.int (2147483647 : Int32)), (.int p4)])) _
    refine XS.iand X0.here hx rfl (hb hby at_30) rfl ?_
    show Steps p.tables e below (s₁.setTop (mkF m 31 _ [(.int (p4 &&& (2147483647 : Int32)))])) _
    refine XS.bipush X0.here hx rfl (hb hby at_31) ?_
    show Steps p.tables e below (s₁.setTop (mkF m 33 _ [(.int (100 : Int32)), (.int (p4 &&& (2147483647 : Int32)))])) _
    refine XS.irem X0.here hx rfl (hb hby at_33) rfl (by decide) ?_
    show Steps p.tables e below (s₁.setTop (mkF m 34 _ [(.int (own_a p4))])) _
    refine XS.istore X0.here hx rfl (hb hby at_34) rfl (l' := #[.val (.int p1), .val (.int p2), .val (.int p3), .val (.int p4), .val (.int p5), .val (.int (own_a p1)), .val (.int (own_a p2)), .val (.int (own_a p3)), .val (.int (own_a p4)), .unset, .unset, .unset, .unset, .unset, .unset, .unset, .unset, .unset, .unset, .unset, .unset, .unset, .unset, .unset, .unset, .unset, .unset, .unset]) rfl ?_
    show Steps p.tables e below (s₁.setTop (mkF m 36 _ [])) _
    refine XS.iload X0.here hx rfl (hb hby at_36) rfl ?_
    show Steps p.tables e below (s₁.setTop (mkF m 38 _ [(.int (own_a p1))])) _
    refine XS.bipush X0.here hx rfl (hb hby at_38) ?_
    show Steps p.tables e below (s₁.setTop (mkF m 40 _ [(.int (10 : Int32)), (.int (own_a p1))])) _
    refine XS.idiv X0.here hx rfl (hb hby at_40) rfl (by decide) ?_
    show Steps p.tables e below (s₁.setTop (mkF m 41 _ [(.int (own_h p1))])) _
    refine XS.istore X0.here hx rfl (hb hby at_41) rfl (l' := #[.val (.int p1), .val (.int p2), .val (.int p3), .val (.int p4), .val (.int p5), .val (.int (own_a p1)), .val (.int (own_a p2)), .val (.int (own_a p3)), .val (.int (own_a p4)), .val (.int (own_h p1)), .unset, .unset, .unset, .unset, .unset, .unset, .unset, .unset, .unset, .unset, .unset, .unset, .unset, .unset, .unset, .unset, .unset, .unset]) rfl ?_
    show Steps p.tables e below (s₁.setTop (mkF m 43 _ [])) _
    refine XS.iload X0.here hx rfl (hb hby at_43) rfl ?_
    show Steps p.tables e below (s₁.setTop (mkF m 45 _ [(.int (own_a p1))])) _
    refine XS.bipush X0.here hx rfl (hb hby at_45) ?_
    show Steps p.tables e below (s₁.setTop (mkF m 47 _ [(.int (10 : Int32)), (.int (own_a p1))])) _
    refine XS.irem X0.here hx rfl (hb hby at_47) rfl (by decide) ?_
    show Steps p.tables e below (s₁.setTop (mkF m 48 _ [(.int (own_l p1))])) _
    refine XS.istore X0.here hx rfl (hb hby at_48) rfl (l' := #[.val (.int p1), .val (.int p2), .val (.int p3), .val (.int p4), .val (.int p5), .val (.int (own_a p1)), .val (.int (own_a p2)), .val (.int (own_a p3)), .val (.int (own_a p4)), .val (.int (own_h p1)), .val (.int (own_l p1)), .unset, .unset, .unset, .unset, .unset, .unset, .unset, .unset, .unset, .unset, .unset, .unset, .unset, .unset, .unset, .unset, .unset]) rfl ?_
    show Steps p.tables e below (s₁.setTop (mkF m 50 _ [])) _
    refine XS.iload X0.here hx rfl (hb hby at_50) rfl ?_
    show Steps p.tables e below (s₁.setTop (mkF m 52 _ [(.int (own_a p2))])) _
    refine XS.bipush X0.here hx rfl (hb hby at_52) ?_
    show Steps p.tables e below (s₁.setTop (mkF m 54 _ [(.int (10 : Int32)), (.int (own_a p2))])) _
    refine XS.idiv X0.here hx rfl (hb hby at_54) rfl (by decide) ?_
    show Steps p.tables e below (s₁.setTop (mkF m 55 _ [(.int (own_h p2))])) _
    refine XS.istore X0.here hx rfl (hb hby at_55) rfl (l' := #[.val (.int p1), .val (.int p2), .val (.int p3), .val (.int p4), .val (.int p5), .val (.int (own_a p1)), .val (.int (own_a p2)), .val (.int (own_a p3)), .val (.int (own_a p4)), .val (.int (own_h p1)), .val (.int (own_l p1)), .val (.int (own_h p2)), .unset, .unset, .unset, .unset, .unset, .unset, .unset, .unset, .unset, .unset, .unset, .unset, .unset, .unset, .unset, .unset]) rfl ?_
    show Steps p.tables e below (s₁.setTop (mkF m 57 _ [])) _
    refine XS.iload X0.here hx rfl (hb hby at_57) rfl ?_
    show Steps p.tables e below (s₁.setTop (mkF m 59 _ [(.int (own_a p2))])) _
    refine XS.bipush X0.here hx rfl (hb hby at_59) ?_
    show Steps p.tables e below (s₁.setTop (mkF m 61 _ [(.int (10 : Int32)), (.int (own_a p2))])) _
    refine XS.irem X0.here hx rfl (hb hby at_61) rfl (by decide) ?_
    show Steps p.tables e below (s₁.setTop (mkF m 62 _ [(.int (own_l p2))])) _
    refine XS.istore X0.here hx rfl (hb hby at_62) rfl (l' := #[.val (.int p1), .val (.int p2), .val (.int p3), .val (.int p4), .val (.int p5), .val (.int (own_a p1)), .val (.int (own_a p2)), .val (.int (own_a p3)), .val (.int (own_a p4)), .val (.int (own_h p1)), .val (.int (own_l p1)), .val (.int (own_h p2)), .val (.int (own_l p2)), .unset, .unset, .unset, .unset, .unset, .unset, .unset, .unset, .unset, .unset, .unset, .unset, .unset, .unset, .unset]) rfl ?_
    show Steps p.tables e below (s₁.setTop (mkF m 64 _ [])) _
    refine XS.iload X0.here hx rfl (hb hby at_64) rfl ?_
    show Steps p.tables e below (s₁.setTop (mkF m 66 _ [(.int (own_a p3))])) _
    refine XS.bipush X0.here hx rfl (hb hby at_66) ?_
    show Steps p.tables e below (s₁.setTop (mkF m 68 _ [(.int (10 : Int32)), (.int (own_a p3))])) _
    refine XS.idiv X0.here hx rfl (hb hby at_68) rfl (by decide) ?_
    show Steps p.tables e below (s₁.setTop (mkF m 69 _ [(.int (own_h p3))])) _
    refine XS.istore X0.here hx rfl (hb hby at_69) rfl (l' := #[.val (.int p1), .val (.int p2), .val (.int p3), .val (.int p4), .val (.int p5), .val (.int (own_a p1)), .val (.int (own_a p2)), .val (.int (own_a p3)), .val (.int (own_a p4)), .val (.int (own_h p1)), .val (.int (own_l p1)), .val (.int (own_h p2)), .val (.int (own_l p2)), .val (.int (own_h p3)), .unset, .unset, .unset, .unset, .unset, .unset, .unset, .unset, .unset, .unset, .unset, .unset, .unset, .unset]) rfl ?_
    show Steps p.tables e below (s₁.setTop (mkF m 71 _ [])) _
    refine XS.iload X0.here hx rfl (hb hby at_71) rfl ?_
    show Steps p.tables e below (s₁.setTop (mkF m 73 _ [(.int (own_a p3))])) _
    refine XS.bipush X0.here hx rfl (hb hby at_73) ?_
    show Steps p.tables e below (s₁.setTop (mkF m 75 _ [(.int (10 : Int32)), (.int (own_a p3))])) _
    refine XS.irem X0.here hx rfl (hb hby at_75) rfl (by decide) ?_
    show Steps p.tables e below (s₁.setTop (mkF m 76 _ [(.int (own_l p3))])) _
    refine XS.istore X0.here hx rfl (hb hby at_76) rfl (l' := #[.val (.int p1), .val (.int p2), .val (.int p3), .val (.int p4), .val (.int p5), .val (.int (own_a p1)), .val (.int (own_a p2)), .val (.int (own_a p3)), .val (.int (own_a p4)), .val (.int (own_h p1)), .val (.int (own_l p1)), .val (.int (own_h p2)), .val (.int (own_l p2)), .val (.int (own_h p3)), .val (.int (own_l p3)), .unset, .unset, .unset, .unset, .unset, .unset, .unset, .unset, .unset, .unset, .unset, .unset, .unset]) rfl ?_
    show Steps p.tables e below (s₁.setTop (mkF m 78 _ [])) _
    refine XS.iload X0.here hx rfl (hb hby at_78) rfl ?_
    show Steps p.tables e below (s₁.setTop (mkF m 80 _ [(.int (own_a p4))])) _
    refine XS.bipush X0.here hx rfl (hb hby at_80) ?_
    show Steps p.tables e below (s₁.setTop (mkF m 82 _ [(.int (10 : Int32)), (.int (own_a p4))])) _
    refine XS.idiv X0.here hx rfl (hb hby at_82) rfl (by decide) ?_
    show Steps p.tables e below (s₁.setTop (mkF m 83 _ [(.int (own_h p4))])) _
    refine XS.istore X0.here hx rfl (hb hby at_83) rfl (l' := #[.val (.int p1), .val (.int p2), .val (.int p3), .val (.int p4), .val (.int p5), .val (.int (own_a p1)), .val (.int (own_a p2)), .val (.int (own_a p3)), .val (.int (own_a p4)), .val (.int (own_h p1)), .val (.int (own_l p1)), .val (.int (own_h p2)), .val (.int (own_l p2)), .val (.int (own_h p3)), .val (.int (own_l p3)), .val (.int (own_h p4)), .unset, .unset, .unset, .unset, .unset, .unset, .unset, .unset, .unset, .unset, .unset, .unset]) rfl ?_
    show Steps p.tables e below (s₁.setTop (mkF m 85 _ [])) _
    refine XS.iload X0.here hx rfl (hb hby at_85) rfl ?_
    show Steps p.tables e below (s₁.setTop (mkF m 87 _ [(.int (own_a p4))])) _
    refine XS.bipush X0.here hx rfl (hb hby at_87) ?_
    show Steps p.tables e below (s₁.setTop (mkF m 89 _ [(.int (10 : Int32)), (.int (own_a p4))])) _
    refine XS.irem X0.here hx rfl (hb hby at_89) rfl (by decide) ?_
    show Steps p.tables e below (s₁.setTop (mkF m 90 _ [(.int (own_l p4))])) _
    refine XS.istore X0.here hx rfl (hb hby at_90) rfl (l' := #[.val (.int p1), .val (.int p2), .val (.int p3), .val (.int p4), .val (.int p5), .val (.int (own_a p1)), .val (.int (own_a p2)), .val (.int (own_a p3)), .val (.int (own_a p4)), .val (.int (own_h p1)), .val (.int (own_l p1)), .val (.int (own_h p2)), .val (.int (own_l p2)), .val (.int (own_h p3)), .val (.int (own_l p3)), .val (.int (own_h p4)), .val (.int (own_l p4)), .unset, .unset, .unset, .unset, .unset, .unset, .unset, .unset, .unset, .unset, .unset]) rfl ?_
    show Steps p.tables e below (s₁.setTop (mkF m 92 _ [])) _
    refine XS.iload X0.here hx rfl (hb hby at_92) rfl ?_
    show Steps p.tables e below (s₁.setTop (mkF m 94 _ [(.int (own_h p1))])) _
    refine XS.iload X0.here hx rfl (hb hby at_94) rfl ?_
    show Steps p.tables e below (s₁.setTop (mkF m 96 _ [(.int p5), (.int (own_h p1))])) _
    refine XS.iconst X0.here hx rfl (hb hby at_96) ?_
    show Steps p.tables e below (s₁.setTop (mkF m 97 _ [(.int (0 : Int32)), (.int p5), (.int (own_h p1))])) _
    refine st6 _ ?_
    show Steps p.tables e below (T6.setTop (mkF m 100 _ [(.long (f1 (own_h p1) p5 (0 : Int32)))])) _
    refine XS.iload X6.here hx rfl (hb hby at_100) rfl ?_
    show Steps p.tables e below (T6.setTop (mkF m 102 _ [(.int (own_l p1)), (.long (f1 (own_h p1) p5 (0 : Int32)))])) _
    refine XS.iload X6.here hx rfl (hb hby at_102) rfl ?_
    show Steps p.tables e below (T6.setTop (mkF m 104 _ [(.int p5), (.int (own_l p1)), (.long (f1 (own_h p1) p5 (0 : Int32)))])) _
    refine XS.iconst X6.here hx rfl (hb hby at_104) ?_
    show Steps p.tables e below (T6.setTop (mkF m 105 _ [(.int (1 : Int32)), (.int p5), (.int (own_l p1)), (.long (f1 (own_h p1) p5 (0 : Int32)))])) _
    refine st7 _ ?_
    show Steps p.tables e below (T7.setTop (mkF m 108 _ [(.long (f1 (own_l p1) p5 (1 : Int32))), (.long (f1 (own_h p1) p5 (0 : Int32)))])) _
    refine XS.lor X7.here hx rfl (hb hby at_108) rfl ?_
    show Steps p.tables e below (T7.setTop (mkF m 109 _ [(.long ((f1 (own_h p1) p5 (0 : Int32)) ||| (f1 (own_l p1) p5 (1 : Int32))))])) _
    refine XS.iload X7.here hx rfl (hb hby at_109) rfl ?_
    show Steps p.tables e below (T7.setTop (mkF m 111 _ [(.int (own_h p2)), (.long ((f1 (own_h p1) p5 (0 : Int32)) ||| (f1 (own_l p1) p5 (1 : Int32))))])) _
    refine XS.iload X7.here hx rfl (hb hby at_111) rfl ?_
    show Steps p.tables e below (T7.setTop (mkF m 113 _ [(.int p5), (.int (own_h p2)), (.long ((f1 (own_h p1) p5 (0 : Int32)) ||| (f1 (own_l p1) p5 (1 : Int32))))])) _
    refine XS.iconst X7.here hx rfl (hb hby at_113) ?_
    show Steps p.tables e below (T7.setTop (mkF m 114 _ [(.int (2 : Int32)), (.int p5), (.int (own_h p2)), (.long ((f1 (own_h p1) p5 (0 : Int32)) ||| (f1 (own_l p1) p5 (1 : Int32))))])) _
    refine st8 _ ?_
    show Steps p.tables e below (T8.setTop (mkF m 117 _ [(.long (f1 (own_h p2) p5 (2 : Int32))), (.long ((f1 (own_h p1) p5 (0 : Int32)) ||| (f1 (own_l p1) p5 (1 : Int32))))])) _
    refine XS.lor X8.here hx rfl (hb hby at_117) rfl ?_
    show Steps p.tables e below (T8.setTop (mkF m 118 _ [(.long (((f1 (own_h p1) p5 (0 : Int32)) ||| (f1 (own_l p1) p5 (1 : Int32))) ||| (f1 (own_h p2) p5 (2 : Int32))))])) _
    refine XS.iload X8.here hx rfl (hb hby at_118) rfl ?_
    show Steps p.tables e below (T8.setTop (mkF m 120 _ [(.int (own_l p2)), (.long (((f1 (own_h p1) p5 (0 : Int32)) ||| (f1 (own_l p1) p5 (1 : Int32))) ||| (f1 (own_h p2) p5 (2 : Int32))))])) _
    refine XS.iload X8.here hx rfl (hb hby at_120) rfl ?_
    show Steps p.tables e below (T8.setTop (mkF m 122 _ [(.int p5), (.int (own_l p2)), (.long (((f1 (own_h p1) p5 (0 : Int32)) ||| (f1 (own_l p1) p5 (1 : Int32))) ||| (f1 (own_h p2) p5 (2 : Int32))))])) _
    refine XS.iconst X8.here hx rfl (hb hby at_122) ?_
    show Steps p.tables e below (T8.setTop (mkF m 123 _ [(.int (3 : Int32)), (.int p5), (.int (own_l p2)), (.long (((f1 (own_h p1) p5 (0 : Int32)) ||| (f1 (own_l p1) p5 (1 : Int32))) ||| (f1 (own_h p2) p5 (2 : Int32))))])) _
    refine st9 _ ?_
    show Steps p.tables e below (T9.setTop (mkF m 126 _ [(.long (f1 (own_l p2) p5 (3 : Int32))), (.long (((f1 (own_h p1) p5 (0 : Int32)) ||| (f1 (own_l p1) p5 (1 : Int32))) ||| (f1 (own_h p2) p5 (2 : Int32))))])) _
    refine XS.lor X9.here hx rfl (hb hby at_126) rfl ?_
    show Steps p.tables e below (T9.setTop (mkF m 127 _ [(.long ((((f1 (own_h p1) p5 (0 : Int32)) ||| (f1 (own_l p1) p5 (1 : Int32))) ||| (f1 (own_h p2) p5 (2 : Int32))) ||| (f1 (own_l p2) p5 (3 : Int32))))])) _
    refine XS.iload X9.here hx rfl (hb hby at_127) rfl ?_
    show Steps p.tables e below (T9.setTop (mkF m 129 _ [(.int (own_h p3)), (.long ((((f1 (own_h p1) p5 (0 : Int32)) ||| (f1 (own_l p1) p5 (1 : Int32))) ||| (f1 (own_h p2) p5 (2 : Int32))) ||| (f1 (own_l p2) p5 (3 : Int32))))])) _
    refine XS.iload X9.here hx rfl (hb hby at_129) rfl ?_
    show Steps p.tables e below (T9.setTop (mkF m 131 _ [(.int p5), (.int (own_h p3)), (.long ((((f1 (own_h p1) p5 (0 : Int32)) ||| (f1 (own_l p1) p5 (1 : Int32))) ||| (f1 (own_h p2) p5 (2 : Int32))) ||| (f1 (own_l p2) p5 (3 : Int32))))])) _
    refine XS.iconst X9.here hx rfl (hb hby at_131) ?_
    show Steps p.tables e below (T9.setTop (mkF m 132 _ [(.int (4 : Int32)), (.int p5), (.int (own_h p3)), (.long ((((f1 (own_h p1) p5 (0 : Int32)) ||| (f1 (own_l p1) p5 (1 : Int32))) ||| (f1 (own_h p2) p5 (2 : Int32))) ||| (f1 (own_l p2) p5 (3 : Int32))))])) _
    refine st10 _ ?_
    show Steps p.tables e below (T10.setTop (mkF m 135 _ [(.long (f1 (own_h p3) p5 (4 : Int32))), (.long ((((f1 (own_h p1) p5 (0 : Int32)) ||| (f1 (own_l p1) p5 (1 : Int32))) ||| (f1 (own_h p2) p5 (2 : Int32))) ||| (f1 (own_l p2) p5 (3 : Int32))))])) _
    refine XS.lor X10.here hx rfl (hb hby at_135) rfl ?_
    show Steps p.tables e below (T10.setTop (mkF m 136 _ [(.long (((((f1 (own_h p1) p5 (0 : Int32)) ||| (f1 (own_l p1) p5 (1 : Int32))) ||| (f1 (own_h p2) p5 (2 : Int32))) ||| (f1 (own_l p2) p5 (3 : Int32))) ||| (f1 (own_h p3) p5 (4 : Int32))))])) _
    refine XS.iload X10.here hx rfl (hb hby at_136) rfl ?_
    show Steps p.tables e below (T10.setTop (mkF m 138 _ [(.int (own_l p3)), (.long (((((f1 (own_h p1) p5 (0 : Int32)) ||| (f1 (own_l p1) p5 (1 : Int32))) ||| (f1 (own_h p2) p5 (2 : Int32))) ||| (f1 (own_l p2) p5 (3 : Int32))) ||| (f1 (own_h p3) p5 (4 : Int32))))])) _
    refine XS.iload X10.here hx rfl (hb hby at_138) rfl ?_
    show Steps p.tables e below (T10.setTop (mkF m 140 _ [(.int p5), (.int (own_l p3)), (.long (((((f1 (own_h p1) p5 (0 : Int32)) ||| (f1 (own_l p1) p5 (1 : Int32))) ||| (f1 (own_h p2) p5 (2 : Int32))) ||| (f1 (own_l p2) p5 (3 : Int32))) ||| (f1 (own_h p3) p5 (4 : Int32))))])) _
    refine XS.iconst X10.here hx rfl (hb hby at_140) ?_
    show Steps p.tables e below (T10.setTop (mkF m 141 _ [(.int (5 : Int32)), (.int p5), (.int (own_l p3)), (.long (((((f1 (own_h p1) p5 (0 : Int32)) ||| (f1 (own_l p1) p5 (1 : Int32))) ||| (f1 (own_h p2) p5 (2 : Int32))) ||| (f1 (own_l p2) p5 (3 : Int32))) ||| (f1 (own_h p3) p5 (4 : Int32))))])) _
    refine st11 _ ?_
    show Steps p.tables e below (T11.setTop (mkF m 144 _ [(.long (f1 (own_l p3) p5 (5 : Int32))), (.long (((((f1 (own_h p1) p5 (0 : Int32)) ||| (f1 (own_l p1) p5 (1 : Int32))) ||| (f1 (own_h p2) p5 (2 : Int32))) ||| (f1 (own_l p2) p5 (3 : Int32))) ||| (f1 (own_h p3) p5 (4 : Int32))))])) _
    refine XS.lor X11.here hx rfl (hb hby at_144) rfl ?_
    show Steps p.tables e below (T11.setTop (mkF m 145 _ [(.long ((((((f1 (own_h p1) p5 (0 : Int32)) ||| (f1 (own_l p1) p5 (1 : Int32))) ||| (f1 (own_h p2) p5 (2 : Int32))) ||| (f1 (own_l p2) p5 (3 : Int32))) ||| (f1 (own_h p3) p5 (4 : Int32))) ||| (f1 (own_l p3) p5 (5 : Int32))))])) _
    refine XS.iload X11.here hx rfl (hb hby at_145) rfl ?_
    show Steps p.tables e below (T11.setTop (mkF m 147 _ [(.int (own_h p4)), (.long ((((((f1 (own_h p1) p5 (0 : Int32)) ||| (f1 (own_l p1) p5 (1 : Int32))) ||| (f1 (own_h p2) p5 (2 : Int32))) ||| (f1 (own_l p2) p5 (3 : Int32))) ||| (f1 (own_h p3) p5 (4 : Int32))) ||| (f1 (own_l p3) p5 (5 : Int32))))])) _
    refine XS.iload X11.here hx rfl (hb hby at_147) rfl ?_
    show Steps p.tables e below (T11.setTop (mkF m 149 _ [(.int p5), (.int (own_h p4)), (.long ((((((f1 (own_h p1) p5 (0 : Int32)) ||| (f1 (own_l p1) p5 (1 : Int32))) ||| (f1 (own_h p2) p5 (2 : Int32))) ||| (f1 (own_l p2) p5 (3 : Int32))) ||| (f1 (own_h p3) p5 (4 : Int32))) ||| (f1 (own_l p3) p5 (5 : Int32))))])) _
    refine XS.bipush X11.here hx rfl (hb hby at_149) ?_
    show Steps p.tables e below (T11.setTop (mkF m 151 _ [(.int (6 : Int32)), (.int p5), (.int (own_h p4)), (.long ((((((f1 (own_h p1) p5 (0 : Int32)) ||| (f1 (own_l p1) p5 (1 : Int32))) ||| (f1 (own_h p2) p5 (2 : Int32))) ||| (f1 (own_l p2) p5 (3 : Int32))) ||| (f1 (own_h p3) p5 (4 : Int32))) ||| (f1 (own_l p3) p5 (5 : Int32))))])) _
    refine st12 _ ?_
    show Steps p.tables e below (T12.setTop (mkF m 154 _ [(.long (f1 (own_h p4) p5 (6 : Int32))), (.long ((((((f1 (own_h p1) p5 (0 : Int32)) ||| (f1 (own_l p1) p5 (1 : Int32))) ||| (f1 (own_h p2) p5 (2 : Int32))) ||| (f1 (own_l p2) p5 (3 : Int32))) ||| (f1 (own_h p3) p5 (4 : Int32))) ||| (f1 (own_l p3) p5 (5 : Int32))))])) _
    refine XS.lor X12.here hx rfl (hb hby at_154) rfl ?_
    show Steps p.tables e below (T12.setTop (mkF m 155 _ [(.long (((((((f1 (own_h p1) p5 (0 : Int32)) ||| (f1 (own_l p1) p5 (1 : Int32))) ||| (f1 (own_h p2) p5 (2 : Int32))) ||| (f1 (own_l p2) p5 (3 : Int32))) ||| (f1 (own_h p3) p5 (4 : Int32))) ||| (f1 (own_l p3) p5 (5 : Int32))) ||| (f1 (own_h p4) p5 (6 : Int32))))])) _
    refine XS.iload X12.here hx rfl (hb hby at_155) rfl ?_
    show Steps p.tables e below (T12.setTop (mkF m 157 _ [(.int (own_l p4)), (.long (((((((f1 (own_h p1) p5 (0 : Int32)) ||| (f1 (own_l p1) p5 (1 : Int32))) ||| (f1 (own_h p2) p5 (2 : Int32))) ||| (f1 (own_l p2) p5 (3 : Int32))) ||| (f1 (own_h p3) p5 (4 : Int32))) ||| (f1 (own_l p3) p5 (5 : Int32))) ||| (f1 (own_h p4) p5 (6 : Int32))))])) _
    refine XS.iload X12.here hx rfl (hb hby at_157) rfl ?_
    show Steps p.tables e below (T12.setTop (mkF m 159 _ [(.int p5), (.int (own_l p4)), (.long (((((((f1 (own_h p1) p5 (0 : Int32)) ||| (f1 (own_l p1) p5 (1 : Int32))) ||| (f1 (own_h p2) p5 (2 : Int32))) ||| (f1 (own_l p2) p5 (3 : Int32))) ||| (f1 (own_h p3) p5 (4 : Int32))) ||| (f1 (own_l p3) p5 (5 : Int32))) ||| (f1 (own_h p4) p5 (6 : Int32))))])) _
    refine XS.bipush X12.here hx rfl (hb hby at_159) ?_
    show Steps p.tables e below (T12.setTop (mkF m 161 _ [(.int (7 : Int32)), (.int p5), (.int (own_l p4)), (.long (((((((f1 (own_h p1) p5 (0 : Int32)) ||| (f1 (own_l p1) p5 (1 : Int32))) ||| (f1 (own_h p2) p5 (2 : Int32))) ||| (f1 (own_l p2) p5 (3 : Int32))) ||| (f1 (own_h p3) p5 (4 : Int32))) ||| (f1 (own_l p3) p5 (5 : Int32))) ||| (f1 (own_h p4) p5 (6 : Int32))))])) _
    refine st13 _ ?_
    show Steps p.tables e below (T13.setTop (mkF m 164 _ [(.long (f1 (own_l p4) p5 (7 : Int32))), (.long (((((((f1 (own_h p1) p5 (0 : Int32)) ||| (f1 (own_l p1) p5 (1 : Int32))) ||| (f1 (own_h p2) p5 (2 : Int32))) ||| (f1 (own_l p2) p5 (3 : Int32))) ||| (f1 (own_h p3) p5 (4 : Int32))) ||| (f1 (own_l p3) p5 (5 : Int32))) ||| (f1 (own_h p4) p5 (6 : Int32))))])) _
    refine XS.lor X13.here hx rfl (hb hby at_164) rfl ?_
    show Steps p.tables e below (T13.setTop (mkF m 165 _ [(.long ((((((((f1 (own_h p1) p5 (0 : Int32)) ||| (f1 (own_l p1) p5 (1 : Int32))) ||| (f1 (own_h p2) p5 (2 : Int32))) ||| (f1 (own_l p2) p5 (3 : Int32))) ||| (f1 (own_h p3) p5 (4 : Int32))) ||| (f1 (own_l p3) p5 (5 : Int32))) ||| (f1 (own_h p4) p5 (6 : Int32))) ||| (f1 (own_l p4) p5 (7 : Int32))))])) _
    refine XS.lstore X13.here hx rfl (hb hby at_165) rfl (l' := #[.val (.int p1), .val (.int p2), .val (.int p3), .val (.int p4), .val (.int p5), .val (.int (own_a p1)), .val (.int (own_a p2)), .val (.int (own_a p3)), .val (.int (own_a p4)), .val (.int (own_h p1)), .val (.int (own_l p1)), .val (.int (own_h p2)), .val (.int (own_l p2)), .val (.int (own_h p3)), .val (.int (own_l p3)), .val (.int (own_h p4)), .val (.int (own_l p4)), .val (.long ((((((((f1 (own_h p1) p5 (0 : Int32)) ||| (f1 (own_l p1) p5 (1 : Int32))) ||| (f1 (own_h p2) p5 (2 : Int32))) ||| (f1 (own_l p2) p5 (3 : Int32))) ||| (f1 (own_h p3) p5 (4 : Int32))) ||| (f1 (own_l p3) p5 (5 : Int32))) ||| (f1 (own_h p4) p5 (6 : Int32))) ||| (f1 (own_l p4) p5 (7 : Int32)))), .second, .unset, .unset, .unset, .unset, .unset, .unset, .unset, .unset, .unset]) rfl ?_
    show Steps p.tables e below (T13.setTop (mkF m 167 _ [])) _
    refine XS.iload X13.here hx rfl (hb hby at_167) rfl ?_
    show Steps p.tables e below (T13.setTop (mkF m 169 _ [(.int (own_h p1))])) _
    refine XS.iload X13.here hx rfl (hb hby at_169) rfl ?_
    show Steps p.tables e below (T13.setTop (mkF m 171 _ [(.int p5), (.int (own_h p1))])) _
    refine XS.iconst X13.here hx rfl (hb hby at_171) ?_
    show Steps p.tables e below (T13.setTop (mkF m 172 _ [(.int (0 : Int32)), (.int p5), (.int (own_h p1))])) _
    refine st14 _ ?_
    show Steps p.tables e below (T14.setTop (mkF m 175 _ [(.int (f3 (own_h p1) p5 (0 : Int32)))])) _
    refine XS.istore X14.here hx rfl (hb hby at_175) rfl (l' := #[.val (.int p1), .val (.int p2), .val (.int p3), .val (.int p4), .val (.int p5), .val (.int (own_a p1)), .val (.int (own_a p2)), .val (.int (own_a p3)), .val (.int (own_a p4)), .val (.int (own_h p1)), .val (.int (own_l p1)), .val (.int (own_h p2)), .val (.int (own_l p2)), .val (.int (own_h p3)), .val (.int (own_l p3)), .val (.int (own_h p4)), .val (.int (own_l p4)), .val (.long ((((((((f1 (own_h p1) p5 (0 : Int32)) ||| (f1 (own_l p1) p5 (1 : Int32))) ||| (f1 (own_h p2) p5 (2 : Int32))) ||| (f1 (own_l p2) p5 (3 : Int32))) ||| (f1 (own_h p3) p5 (4 : Int32))) ||| (f1 (own_l p3) p5 (5 : Int32))) ||| (f1 (own_h p4) p5 (6 : Int32))) ||| (f1 (own_l p4) p5 (7 : Int32)))), .second, .val (.int (f3 (own_h p1) p5 (0 : Int32))), .unset, .unset, .unset, .unset, .unset, .unset, .unset, .unset]) rfl ?_
    show Steps p.tables e below (T14.setTop (mkF m 177 _ [])) _
    refine XS.iload X14.here hx rfl (hb hby at_177) rfl ?_
    show Steps p.tables e below (T14.setTop (mkF m 179 _ [(.int (own_l p1))])) _
    refine XS.iload X14.here hx rfl (hb hby at_179) rfl ?_
    show Steps p.tables e below (T14.setTop (mkF m 181 _ [(.int p5), (.int (own_l p1))])) _
    refine XS.iconst X14.here hx rfl (hb hby at_181) ?_
    show Steps p.tables e below (T14.setTop (mkF m 182 _ [(.int (1 : Int32)), (.int p5), (.int (own_l p1))])) _
    refine st15 _ ?_
    show Steps p.tables e below (T15.setTop (mkF m 185 _ [(.int (f3 (own_l p1) p5 (1 : Int32)))])) _
    refine XS.istore X15.here hx rfl (hb hby at_185) rfl (l' := #[.val (.int p1), .val (.int p2), .val (.int p3), .val (.int p4), .val (.int p5), .val (.int (own_a p1)), .val (.int (own_a p2)), .val (.int (own_a p3)), .val (.int (own_a p4)), .val (.int (own_h p1)), .val (.int (own_l p1)), .val (.int (own_h p2)), .val (.int (own_l p2)), .val (.int (own_h p3)), .val (.int (own_l p3)), .val (.int (own_h p4)), .val (.int (own_l p4)), .val (.long ((((((((f1 (own_h p1) p5 (0 : Int32)) ||| (f1 (own_l p1) p5 (1 : Int32))) ||| (f1 (own_h p2) p5 (2 : Int32))) ||| (f1 (own_l p2) p5 (3 : Int32))) ||| (f1 (own_h p3) p5 (4 : Int32))) ||| (f1 (own_l p3) p5 (5 : Int32))) ||| (f1 (own_h p4) p5 (6 : Int32))) ||| (f1 (own_l p4) p5 (7 : Int32)))), .second, .val (.int (f3 (own_h p1) p5 (0 : Int32))), .val (.int (f3 (own_l p1) p5 (1 : Int32))), .unset, .unset, .unset, .unset, .unset, .unset, .unset]) rfl ?_
    show Steps p.tables e below (T15.setTop (mkF m 187 _ [])) _
    refine XS.iload X15.here hx rfl (hb hby at_187) rfl ?_
    show Steps p.tables e below (T15.setTop (mkF m 189 _ [(.int (own_h p2))])) _
    refine XS.iload X15.here hx rfl (hb hby at_189) rfl ?_
    show Steps p.tables e below (T15.setTop (mkF m 191 _ [(.int p5), (.int (own_h p2))])) _
    refine XS.iconst X15.here hx rfl (hb hby at_191) ?_
    show Steps p.tables e below (T15.setTop (mkF m 192 _ [(.int (2 : Int32)), (.int p5), (.int (own_h p2))])) _
    refine st16 _ ?_
    show Steps p.tables e below (T16.setTop (mkF m 195 _ [(.int (f3 (own_h p2) p5 (2 : Int32)))])) _
    refine XS.istore X16.here hx rfl (hb hby at_195) rfl (l' := #[.val (.int p1), .val (.int p2), .val (.int p3), .val (.int p4), .val (.int p5), .val (.int (own_a p1)), .val (.int (own_a p2)), .val (.int (own_a p3)), .val (.int (own_a p4)), .val (.int (own_h p1)), .val (.int (own_l p1)), .val (.int (own_h p2)), .val (.int (own_l p2)), .val (.int (own_h p3)), .val (.int (own_l p3)), .val (.int (own_h p4)), .val (.int (own_l p4)), .val (.long ((((((((f1 (own_h p1) p5 (0 : Int32)) ||| (f1 (own_l p1) p5 (1 : Int32))) ||| (f1 (own_h p2) p5 (2 : Int32))) ||| (f1 (own_l p2) p5 (3 : Int32))) ||| (f1 (own_h p3) p5 (4 : Int32))) ||| (f1 (own_l p3) p5 (5 : Int32))) ||| (f1 (own_h p4) p5 (6 : Int32))) ||| (f1 (own_l p4) p5 (7 : Int32)))), .second, .val (.int (f3 (own_h p1) p5 (0 : Int32))), .val (.int (f3 (own_l p1) p5 (1 : Int32))), .val (.int (f3 (own_h p2) p5 (2 : Int32))), .unset, .unset, .unset, .unset, .unset, .unset]) rfl ?_
    show Steps p.tables e below (T16.setTop (mkF m 197 _ [])) _
    refine XS.iload X16.here hx rfl (hb hby at_197) rfl ?_
    show Steps p.tables e below (T16.setTop (mkF m 199 _ [(.int (own_l p2))])) _
    refine XS.iload X16.here hx rfl (hb hby at_199) rfl ?_
    show Steps p.tables e below (T16.setTop (mkF m 201 _ [(.int p5), (.int (own_l p2))])) _
    refine XS.iconst X16.here hx rfl (hb hby at_201) ?_
    show Steps p.tables e below (T16.setTop (mkF m 202 _ [(.int (3 : Int32)), (.int p5), (.int (own_l p2))])) _
    refine st17 _ ?_
    show Steps p.tables e below (T17.setTop (mkF m 205 _ [(.int (f3 (own_l p2) p5 (3 : Int32)))])) _
    refine XS.istore X17.here hx rfl (hb hby at_205) rfl (l' := #[.val (.int p1), .val (.int p2), .val (.int p3), .val (.int p4), .val (.int p5), .val (.int (own_a p1)), .val (.int (own_a p2)), .val (.int (own_a p3)), .val (.int (own_a p4)), .val (.int (own_h p1)), .val (.int (own_l p1)), .val (.int (own_h p2)), .val (.int (own_l p2)), .val (.int (own_h p3)), .val (.int (own_l p3)), .val (.int (own_h p4)), .val (.int (own_l p4)), .val (.long ((((((((f1 (own_h p1) p5 (0 : Int32)) ||| (f1 (own_l p1) p5 (1 : Int32))) ||| (f1 (own_h p2) p5 (2 : Int32))) ||| (f1 (own_l p2) p5 (3 : Int32))) ||| (f1 (own_h p3) p5 (4 : Int32))) ||| (f1 (own_l p3) p5 (5 : Int32))) ||| (f1 (own_h p4) p5 (6 : Int32))) ||| (f1 (own_l p4) p5 (7 : Int32)))), .second, .val (.int (f3 (own_h p1) p5 (0 : Int32))), .val (.int (f3 (own_l p1) p5 (1 : Int32))), .val (.int (f3 (own_h p2) p5 (2 : Int32))), .val (.int (f3 (own_l p2) p5 (3 : Int32))), .unset, .unset, .unset, .unset, .unset]) rfl ?_
    show Steps p.tables e below (T17.setTop (mkF m 207 _ [])) _
    refine XS.iload X17.here hx rfl (hb hby at_207) rfl ?_
    show Steps p.tables e below (T17.setTop (mkF m 209 _ [(.int (own_h p3))])) _
    refine XS.iload X17.here hx rfl (hb hby at_209) rfl ?_
    show Steps p.tables e below (T17.setTop (mkF m 211 _ [(.int p5), (.int (own_h p3))])) _
    refine XS.iconst X17.here hx rfl (hb hby at_211) ?_
    show Steps p.tables e below (T17.setTop (mkF m 212 _ [(.int (4 : Int32)), (.int p5), (.int (own_h p3))])) _
    refine st18 _ ?_
    show Steps p.tables e below (T18.setTop (mkF m 215 _ [(.int (f3 (own_h p3) p5 (4 : Int32)))])) _
    refine XS.istore X18.here hx rfl (hb hby at_215) rfl (l' := #[.val (.int p1), .val (.int p2), .val (.int p3), .val (.int p4), .val (.int p5), .val (.int (own_a p1)), .val (.int (own_a p2)), .val (.int (own_a p3)), .val (.int (own_a p4)), .val (.int (own_h p1)), .val (.int (own_l p1)), .val (.int (own_h p2)), .val (.int (own_l p2)), .val (.int (own_h p3)), .val (.int (own_l p3)), .val (.int (own_h p4)), .val (.int (own_l p4)), .val (.long ((((((((f1 (own_h p1) p5 (0 : Int32)) ||| (f1 (own_l p1) p5 (1 : Int32))) ||| (f1 (own_h p2) p5 (2 : Int32))) ||| (f1 (own_l p2) p5 (3 : Int32))) ||| (f1 (own_h p3) p5 (4 : Int32))) ||| (f1 (own_l p3) p5 (5 : Int32))) ||| (f1 (own_h p4) p5 (6 : Int32))) ||| (f1 (own_l p4) p5 (7 : Int32)))), .second, .val (.int (f3 (own_h p1) p5 (0 : Int32))), .val (.int (f3 (own_l p1) p5 (1 : Int32))), .val (.int (f3 (own_h p2) p5 (2 : Int32))), .val (.int (f3 (own_l p2) p5 (3 : Int32))), .val (.int (f3 (own_h p3) p5 (4 : Int32))), .unset, .unset, .unset, .unset]) rfl ?_
    show Steps p.tables e below (T18.setTop (mkF m 217 _ [])) _
    refine XS.iload X18.here hx rfl (hb hby at_217) rfl ?_
    show Steps p.tables e below (T18.setTop (mkF m 219 _ [(.int (own_l p3))])) _
    refine XS.iload X18.here hx rfl (hb hby at_219) rfl ?_
    show Steps p.tables e below (T18.setTop (mkF m 221 _ [(.int p5), (.int (own_l p3))])) _
    refine XS.iconst X18.here hx rfl (hb hby at_221) ?_
    show Steps p.tables e below (T18.setTop (mkF m 222 _ [(.int (5 : Int32)), (.int p5), (.int (own_l p3))])) _
    refine st19 _ ?_
    show Steps p.tables e below (T19.setTop (mkF m 225 _ [(.int (f3 (own_l p3) p5 (5 : Int32)))])) _
    refine XS.istore X19.here hx rfl (hb hby at_225) rfl (l' := #[.val (.int p1), .val (.int p2), .val (.int p3), .val (.int p4), .val (.int p5), .val (.int (own_a p1)), .val (.int (own_a p2)), .val (.int (own_a p3)), .val (.int (own_a p4)), .val (.int (own_h p1)), .val (.int (own_l p1)), .val (.int (own_h p2)), .val (.int (own_l p2)), .val (.int (own_h p3)), .val (.int (own_l p3)), .val (.int (own_h p4)), .val (.int (own_l p4)), .val (.long ((((((((f1 (own_h p1) p5 (0 : Int32)) ||| (f1 (own_l p1) p5 (1 : Int32))) ||| (f1 (own_h p2) p5 (2 : Int32))) ||| (f1 (own_l p2) p5 (3 : Int32))) ||| (f1 (own_h p3) p5 (4 : Int32))) ||| (f1 (own_l p3) p5 (5 : Int32))) ||| (f1 (own_h p4) p5 (6 : Int32))) ||| (f1 (own_l p4) p5 (7 : Int32)))), .second, .val (.int (f3 (own_h p1) p5 (0 : Int32))), .val (.int (f3 (own_l p1) p5 (1 : Int32))), .val (.int (f3 (own_h p2) p5 (2 : Int32))), .val (.int (f3 (own_l p2) p5 (3 : Int32))), .val (.int (f3 (own_h p3) p5 (4 : Int32))), .val (.int (f3 (own_l p3) p5 (5 : Int32))), .unset, .unset, .unset]) rfl ?_
    show Steps p.tables e below (T19.setTop (mkF m 227 _ [])) _
    refine XS.iload X19.here hx rfl (hb hby at_227) rfl ?_
    show Steps p.tables e below (T19.setTop (mkF m 229 _ [(.int (own_h p4))])) _
    refine XS.iload X19.here hx rfl (hb hby at_229) rfl ?_
    show Steps p.tables e below (T19.setTop (mkF m 231 _ [(.int p5), (.int (own_h p4))])) _
    refine XS.bipush X19.here hx rfl (hb hby at_231) ?_
    show Steps p.tables e below (T19.setTop (mkF m 233 _ [(.int (6 : Int32)), (.int p5), (.int (own_h p4))])) _
    refine st20 _ ?_
    show Steps p.tables e below (T20.setTop (mkF m 236 _ [(.int (f3 (own_h p4) p5 (6 : Int32)))])) _
    refine XS.istore X20.here hx rfl (hb hby at_236) rfl (l' := #[.val (.int p1), .val (.int p2), .val (.int p3), .val (.int p4), .val (.int p5), .val (.int (own_a p1)), .val (.int (own_a p2)), .val (.int (own_a p3)), .val (.int (own_a p4)), .val (.int (own_h p1)), .val (.int (own_l p1)), .val (.int (own_h p2)), .val (.int (own_l p2)), .val (.int (own_h p3)), .val (.int (own_l p3)), .val (.int (own_h p4)), .val (.int (own_l p4)), .val (.long ((((((((f1 (own_h p1) p5 (0 : Int32)) ||| (f1 (own_l p1) p5 (1 : Int32))) ||| (f1 (own_h p2) p5 (2 : Int32))) ||| (f1 (own_l p2) p5 (3 : Int32))) ||| (f1 (own_h p3) p5 (4 : Int32))) ||| (f1 (own_l p3) p5 (5 : Int32))) ||| (f1 (own_h p4) p5 (6 : Int32))) ||| (f1 (own_l p4) p5 (7 : Int32)))), .second, .val (.int (f3 (own_h p1) p5 (0 : Int32))), .val (.int (f3 (own_l p1) p5 (1 : Int32))), .val (.int (f3 (own_h p2) p5 (2 : Int32))), .val (.int (f3 (own_l p2) p5 (3 : Int32))), .val (.int (f3 (own_h p3) p5 (4 : Int32))), .val (.int (f3 (own_l p3) p5 (5 : Int32))), .val (.int (f3 (own_h p4) p5 (6 : Int32))), .unset, .unset]) rfl ?_
    show Steps p.tables e below (T20.setTop (mkF m 238 _ [])) _
    refine XS.iload X20.here hx rfl (hb hby at_238) rfl ?_
    show Steps p.tables e below (T20.setTop (mkF m 240 _ [(.int (own_l p4))])) _
    refine XS.iload X20.here hx rfl (hb hby at_240) rfl ?_
    show Steps p.tables e below (T20.setTop (mkF m 242 _ [(.int p5), (.int (own_l p4))])) _
    refine XS.bipush X20.here hx rfl (hb hby at_242) ?_
    show Steps p.tables e below (T20.setTop (mkF m 244 _ [(.int (7 : Int32)), (.int p5), (.int (own_l p4))])) _
    refine st21 _ ?_
    show Steps p.tables e below (T21.setTop (mkF m 247 _ [(.int (f3 (own_l p4) p5 (7 : Int32)))])) _
    refine XS.istore X21.here hx rfl (hb hby at_247) rfl (l' := #[.val (.int p1), .val (.int p2), .val (.int p3), .val (.int p4), .val (.int p5), .val (.int (own_a p1)), .val (.int (own_a p2)), .val (.int (own_a p3)), .val (.int (own_a p4)), .val (.int (own_h p1)), .val (.int (own_l p1)), .val (.int (own_h p2)), .val (.int (own_l p2)), .val (.int (own_h p3)), .val (.int (own_l p3)), .val (.int (own_h p4)), .val (.int (own_l p4)), .val (.long ((((((((f1 (own_h p1) p5 (0 : Int32)) ||| (f1 (own_l p1) p5 (1 : Int32))) ||| (f1 (own_h p2) p5 (2 : Int32))) ||| (f1 (own_l p2) p5 (3 : Int32))) ||| (f1 (own_h p3) p5 (4 : Int32))) ||| (f1 (own_l p3) p5 (5 : Int32))) ||| (f1 (own_h p4) p5 (6 : Int32))) ||| (f1 (own_l p4) p5 (7 : Int32)))), .second, .val (.int (f3 (own_h p1) p5 (0 : Int32))), .val (.int (f3 (own_l p1) p5 (1 : Int32))), .val (.int (f3 (own_h p2) p5 (2 : Int32))), .val (.int (f3 (own_l p2) p5 (3 : Int32))), .val (.int (f3 (own_h p3) p5 (4 : Int32))), .val (.int (f3 (own_l p3) p5 (5 : Int32))), .val (.int (f3 (own_h p4) p5 (6 : Int32))), .val (.int (f3 (own_l p4) p5 (7 : Int32))), .unset]) rfl ?_
    show Steps p.tables e below (T21.setTop (mkF m 249 _ [])) _
    refine XS.iload X21.here hx rfl (hb hby at_249) rfl ?_
    show Steps p.tables e below (T21.setTop (mkF m 251 _ [(.int (f3 (own_h p1) p5 (0 : Int32)))])) _
    refine X21.ldcInt hx hown (mvT hZ (hw _ (List.mem_of_getElem? (i := 12) rfl))) (g := (mkF m 251 #[.val (.int p1), .val (.int p2), .val (.int p3), .val (.int p4), .val (.int p5), .val (.int (own_a p1)), .val (.int (own_a p2)), .val (.int (own_a p3)), .val (.int (own_a p4)), .val (.int (own_h p1)), .val (.int (own_l p1)), .val (.int (own_h p2)), .val (.int (own_l p2)), .val (.int (own_h p3)), .val (.int (own_l p3)), .val (.int (own_h p4)), .val (.int (own_l p4)), .val (.long ((((((((f1 (own_h p1) p5 (0 : Int32)) ||| (f1 (own_l p1) p5 (1 : Int32))) ||| (f1 (own_h p2) p5 (2 : Int32))) ||| (f1 (own_l p2) p5 (3 : Int32))) ||| (f1 (own_h p3) p5 (4 : Int32))) ||| (f1 (own_l p3) p5 (5 : Int32))) ||| (f1 (own_h p4) p5 (6 : Int32))) ||| (f1 (own_l p4) p5 (7 : Int32)))), .second, .val (.int (f3 (own_h p1) p5 (0 : Int32))), .val (.int (f3 (own_l p1) p5 (1 : Int32))), .val (.int (f3 (own_h p2) p5 (2 : Int32))), .val (.int (f3 (own_l p2) p5 (3 : Int32))), .val (.int (f3 (own_h p3) p5 (4 : Int32))), .val (.int (f3 (own_l p3) p5 (5 : Int32))), .val (.int (f3 (own_h p4) p5 (6 : Int32))), .val (.int (f3 (own_l p4) p5 (7 : Int32))), .unset] [(.int (f3 (own_h p1) p5 (0 : Int32)))])) rfl (hb hby at_251) _ ?_
    show Steps p.tables e below (T21.setTop (mkF m 253 _ [(.int (10000000 : Int32)), (.int (f3 (own_h p1) p5 (0 : Int32)))])) _
    refine XS.imul X21.here hx rfl (hb hby at_253) rfl ?_
    show Steps p.tables e below (T21.setTop (mkF m 254 _ [(.int ((f3 (own_h p1) p5 (0 : Int32)) * (10000000 : Int32)))])) _
    refine XS.iload X21.here hx rfl (hb hby at_254) rfl ?_
    show Steps p.tables e below (T21.setTop (mkF m 256 _ [(.int (f3 (own_l p1) p5 (1 : Int32))), (.int ((f3 (own_h p1) p5 (0 : Int32)) * (10000000 : Int32)))])) _
    refine X21.ldcInt hx hown (mvT hZ (hw _ (List.mem_of_getElem? (i := 13) rfl))) (g := (mkF m 256 #[.val (.int p1), .val (.int p2), .val (.int p3), .val (.int p4), .val (.int p5), .val (.int (own_a p1)), .val (.int (own_a p2)), .val (.int (own_a p3)), .val (.int (own_a p4)), .val (.int (own_h p1)), .val (.int (own_l p1)), .val (.int (own_h p2)), .val (.int (own_l p2)), .val (.int (own_h p3)), .val (.int (own_l p3)), .val (.int (own_h p4)), .val (.int (own_l p4)), .val (.long ((((((((f1 (own_h p1) p5 (0 : Int32)) ||| (f1 (own_l p1) p5 (1 : Int32))) ||| (f1 (own_h p2) p5 (2 : Int32))) ||| (f1 (own_l p2) p5 (3 : Int32))) ||| (f1 (own_h p3) p5 (4 : Int32))) ||| (f1 (own_l p3) p5 (5 : Int32))) ||| (f1 (own_h p4) p5 (6 : Int32))) ||| (f1 (own_l p4) p5 (7 : Int32)))), .second, .val (.int (f3 (own_h p1) p5 (0 : Int32))), .val (.int (f3 (own_l p1) p5 (1 : Int32))), .val (.int (f3 (own_h p2) p5 (2 : Int32))), .val (.int (f3 (own_l p2) p5 (3 : Int32))), .val (.int (f3 (own_h p3) p5 (4 : Int32))), .val (.int (f3 (own_l p3) p5 (5 : Int32))), .val (.int (f3 (own_h p4) p5 (6 : Int32))), .val (.int (f3 (own_l p4) p5 (7 : Int32))), .unset] [(.int (f3 (own_l p1) p5 (1 : Int32))), (.int ((f3 (own_h p1) p5 (0 : Int32)) * (10000000 : Int32)))])) rfl (hb hby at_256) _ ?_
    show Steps p.tables e below (T21.setTop (mkF m 258 _ [(.int (1000000 : Int32)), (.int (f3 (own_l p1) p5 (1 : Int32))), (.int ((f3 (own_h p1) p5 (0 : Int32)) * (10000000 : Int32)))])) _
    refine XS.imul X21.here hx rfl (hb hby at_258) rfl ?_
    show Steps p.tables e below (T21.setTop (mkF m 259 _ [(.int ((f3 (own_l p1) p5 (1 : Int32)) * (1000000 : Int32))), (.int ((f3 (own_h p1) p5 (0 : Int32)) * (10000000 : Int32)))])) _
    refine XS.iadd X21.here hx rfl (hb hby at_259) rfl ?_
    show Steps p.tables e below (T21.setTop (mkF m 260 _ [(.int (((f3 (own_h p1) p5 (0 : Int32)) * (10000000 : Int32)) + ((f3 (own_l p1) p5 (1 : Int32)) * (1000000 : Int32))))])) _
    refine XS.iload X21.here hx rfl (hb hby at_260) rfl ?_
    show Steps p.tables e below (T21.setTop (mkF m 262 _ [(.int (f3 (own_h p2) p5 (2 : Int32))), (.int (((f3 (own_h p1) p5 (0 : Int32)) * (10000000 : Int32)) + ((f3 (own_l p1) p5 (1 : Int32)) * (1000000 : Int32))))])) _
    refine X21.ldcInt hx hown (mvT hZ (hw _ (List.mem_of_getElem? (i := 14) rfl))) (g := (mkF m 262 #[.val (.int p1), .val (.int p2), .val (.int p3), .val (.int p4), .val (.int p5), .val (.int (own_a p1)), .val (.int (own_a p2)), .val (.int (own_a p3)), .val (.int (own_a p4)), .val (.int (own_h p1)), .val (.int (own_l p1)), .val (.int (own_h p2)), .val (.int (own_l p2)), .val (.int (own_h p3)), .val (.int (own_l p3)), .val (.int (own_h p4)), .val (.int (own_l p4)), .val (.long ((((((((f1 (own_h p1) p5 (0 : Int32)) ||| (f1 (own_l p1) p5 (1 : Int32))) ||| (f1 (own_h p2) p5 (2 : Int32))) ||| (f1 (own_l p2) p5 (3 : Int32))) ||| (f1 (own_h p3) p5 (4 : Int32))) ||| (f1 (own_l p3) p5 (5 : Int32))) ||| (f1 (own_h p4) p5 (6 : Int32))) ||| (f1 (own_l p4) p5 (7 : Int32)))), .second, .val (.int (f3 (own_h p1) p5 (0 : Int32))), .val (.int (f3 (own_l p1) p5 (1 : Int32))), .val (.int (f3 (own_h p2) p5 (2 : Int32))), .val (.int (f3 (own_l p2) p5 (3 : Int32))), .val (.int (f3 (own_h p3) p5 (4 : Int32))), .val (.int (f3 (own_l p3) p5 (5 : Int32))), .val (.int (f3 (own_h p4) p5 (6 : Int32))), .val (.int (f3 (own_l p4) p5 (7 : Int32))), .unset] [(.int (f3 (own_h p2) p5 (2 : Int32))), (.int (((f3 (own_h p1) p5 (0 : Int32)) * (10000000 : Int32)) + ((f3 (own_l p1) p5 (1 : Int32)) * (1000000 : Int32))))])) rfl (hb hby at_262) _ ?_
    show Steps p.tables e below (T21.setTop (mkF m 264 _ [(.int (100000 : Int32)), (.int (f3 (own_h p2) p5 (2 : Int32))), (.int (((f3 (own_h p1) p5 (0 : Int32)) * (10000000 : Int32)) + ((f3 (own_l p1) p5 (1 : Int32)) * (1000000 : Int32))))])) _
    refine XS.imul X21.here hx rfl (hb hby at_264) rfl ?_
    show Steps p.tables e below (T21.setTop (mkF m 265 _ [(.int ((f3 (own_h p2) p5 (2 : Int32)) * (100000 : Int32))), (.int (((f3 (own_h p1) p5 (0 : Int32)) * (10000000 : Int32)) + ((f3 (own_l p1) p5 (1 : Int32)) * (1000000 : Int32))))])) _
    refine XS.iadd X21.here hx rfl (hb hby at_265) rfl ?_
    show Steps p.tables e below (T21.setTop (mkF m 266 _ [(.int ((((f3 (own_h p1) p5 (0 : Int32)) * (10000000 : Int32)) + ((f3 (own_l p1) p5 (1 : Int32)) * (1000000 : Int32))) + ((f3 (own_h p2) p5 (2 : Int32)) * (100000 : Int32))))])) _
    refine XS.iload X21.here hx rfl (hb hby at_266) rfl ?_
    show Steps p.tables e below (T21.setTop (mkF m 268 _ [(.int (f3 (own_l p2) p5 (3 : Int32))), (.int ((((f3 (own_h p1) p5 (0 : Int32)) * (10000000 : Int32)) + ((f3 (own_l p1) p5 (1 : Int32)) * (1000000 : Int32))) + ((f3 (own_h p2) p5 (2 : Int32)) * (100000 : Int32))))])) _
    refine XS.sipush X21.here hx rfl (hb hby at_268) ?_
    show Steps p.tables e below (T21.setTop (mkF m 271 _ [(.int (10000 : Int32)), (.int (f3 (own_l p2) p5 (3 : Int32))), (.int ((((f3 (own_h p1) p5 (0 : Int32)) * (10000000 : Int32)) + ((f3 (own_l p1) p5 (1 : Int32)) * (1000000 : Int32))) + ((f3 (own_h p2) p5 (2 : Int32)) * (100000 : Int32))))])) _
    refine XS.imul X21.here hx rfl (hb hby at_271) rfl ?_
    show Steps p.tables e below (T21.setTop (mkF m 272 _ [(.int ((f3 (own_l p2) p5 (3 : Int32)) * (10000 : Int32))), (.int ((((f3 (own_h p1) p5 (0 : Int32)) * (10000000 : Int32)) + ((f3 (own_l p1) p5 (1 : Int32)) * (1000000 : Int32))) + ((f3 (own_h p2) p5 (2 : Int32)) * (100000 : Int32))))])) _
    refine XS.iadd X21.here hx rfl (hb hby at_272) rfl ?_
    show Steps p.tables e below (T21.setTop (mkF m 273 _ [(.int (((((f3 (own_h p1) p5 (0 : Int32)) * (10000000 : Int32)) + ((f3 (own_l p1) p5 (1 : Int32)) * (1000000 : Int32))) + ((f3 (own_h p2) p5 (2 : Int32)) * (100000 : Int32))) + ((f3 (own_l p2) p5 (3 : Int32)) * (10000 : Int32))))])) _
    refine XS.iload X21.here hx rfl (hb hby at_273) rfl ?_
    show Steps p.tables e below (T21.setTop (mkF m 275 _ [(.int (f3 (own_h p3) p5 (4 : Int32))), (.int (((((f3 (own_h p1) p5 (0 : Int32)) * (10000000 : Int32)) + ((f3 (own_l p1) p5 (1 : Int32)) * (1000000 : Int32))) + ((f3 (own_h p2) p5 (2 : Int32)) * (100000 : Int32))) + ((f3 (own_l p2) p5 (3 : Int32)) * (10000 : Int32))))])) _
    refine XS.sipush X21.here hx rfl (hb hby at_275) ?_
    show Steps p.tables e below (T21.setTop (mkF m 278 _ [(.int (1000 : Int32)), (.int (f3 (own_h p3) p5 (4 : Int32))), (.int (((((f3 (own_h p1) p5 (0 : Int32)) * (10000000 : Int32)) + ((f3 (own_l p1) p5 (1 : Int32)) * (1000000 : Int32))) + ((f3 (own_h p2) p5 (2 : Int32)) * (100000 : Int32))) + ((f3 (own_l p2) p5 (3 : Int32)) * (10000 : Int32))))])) _
    refine XS.imul X21.here hx rfl (hb hby at_278) rfl ?_
    show Steps p.tables e below (T21.setTop (mkF m 279 _ [(.int ((f3 (own_h p3) p5 (4 : Int32)) * (1000 : Int32))), (.int (((((f3 (own_h p1) p5 (0 : Int32)) * (10000000 : Int32)) + ((f3 (own_l p1) p5 (1 : Int32)) * (1000000 : Int32))) + ((f3 (own_h p2) p5 (2 : Int32)) * (100000 : Int32))) + ((f3 (own_l p2) p5 (3 : Int32)) * (10000 : Int32))))])) _
    refine XS.iadd X21.here hx rfl (hb hby at_279) rfl ?_
    show Steps p.tables e below (T21.setTop (mkF m 280 _ [(.int ((((((f3 (own_h p1) p5 (0 : Int32)) * (10000000 : Int32)) + ((f3 (own_l p1) p5 (1 : Int32)) * (1000000 : Int32))) + ((f3 (own_h p2) p5 (2 : Int32)) * (100000 : Int32))) + ((f3 (own_l p2) p5 (3 : Int32)) * (10000 : Int32))) + ((f3 (own_h p3) p5 (4 : Int32)) * (1000 : Int32))))])) _
    refine XS.iload X21.here hx rfl (hb hby at_280) rfl ?_
    show Steps p.tables e below (T21.setTop (mkF m 282 _ [(.int (f3 (own_l p3) p5 (5 : Int32))), (.int ((((((f3 (own_h p1) p5 (0 : Int32)) * (10000000 : Int32)) + ((f3 (own_l p1) p5 (1 : Int32)) * (1000000 : Int32))) + ((f3 (own_h p2) p5 (2 : Int32)) * (100000 : Int32))) + ((f3 (own_l p2) p5 (3 : Int32)) * (10000 : Int32))) + ((f3 (own_h p3) p5 (4 : Int32)) * (1000 : Int32))))])) _
    refine XS.bipush X21.here hx rfl (hb hby at_282) ?_
    show Steps p.tables e below (T21.setTop (mkF m 284 _ [(.int (100 : Int32)), (.int (f3 (own_l p3) p5 (5 : Int32))), (.int ((((((f3 (own_h p1) p5 (0 : Int32)) * (10000000 : Int32)) + ((f3 (own_l p1) p5 (1 : Int32)) * (1000000 : Int32))) + ((f3 (own_h p2) p5 (2 : Int32)) * (100000 : Int32))) + ((f3 (own_l p2) p5 (3 : Int32)) * (10000 : Int32))) + ((f3 (own_h p3) p5 (4 : Int32)) * (1000 : Int32))))])) _
    refine XS.imul X21.here hx rfl (hb hby at_284) rfl ?_
    show Steps p.tables e below (T21.setTop (mkF m 285 _ [(.int ((f3 (own_l p3) p5 (5 : Int32)) * (100 : Int32))), (.int ((((((f3 (own_h p1) p5 (0 : Int32)) * (10000000 : Int32)) + ((f3 (own_l p1) p5 (1 : Int32)) * (1000000 : Int32))) + ((f3 (own_h p2) p5 (2 : Int32)) * (100000 : Int32))) + ((f3 (own_l p2) p5 (3 : Int32)) * (10000 : Int32))) + ((f3 (own_h p3) p5 (4 : Int32)) * (1000 : Int32))))])) _
    refine XS.iadd X21.here hx rfl (hb hby at_285) rfl ?_
    show Steps p.tables e below (T21.setTop (mkF m 286 _ [(.int (((((((f3 (own_h p1) p5 (0 : Int32)) * (10000000 : Int32)) + ((f3 (own_l p1) p5 (1 : Int32)) * (1000000 : Int32))) + ((f3 (own_h p2) p5 (2 : Int32)) * (100000 : Int32))) + ((f3 (own_l p2) p5 (3 : Int32)) * (10000 : Int32))) + ((f3 (own_h p3) p5 (4 : Int32)) * (1000 : Int32))) + ((f3 (own_l p3) p5 (5 : Int32)) * (100 : Int32))))])) _
    refine XS.iload X21.here hx rfl (hb hby at_286) rfl ?_
    show Steps p.tables e below (T21.setTop (mkF m 288 _ [(.int (f3 (own_h p4) p5 (6 : Int32))), (.int (((((((f3 (own_h p1) p5 (0 : Int32)) * (10000000 : Int32)) + ((f3 (own_l p1) p5 (1 : Int32)) * (1000000 : Int32))) + ((f3 (own_h p2) p5 (2 : Int32)) * (100000 : Int32))) + ((f3 (own_l p2) p5 (3 : Int32)) * (10000 : Int32))) + ((f3 (own_h p3) p5 (4 : Int32)) * (1000 : Int32))) + ((f3 (own_l p3) p5 (5 : Int32)) * (100 : Int32))))])) _
    refine XS.bipush X21.here hx rfl (hb hby at_288) ?_
    show Steps p.tables e below (T21.setTop (mkF m 290 _ [(.int (10 : Int32)), (.int (f3 (own_h p4) p5 (6 : Int32))), (.int (((((((f3 (own_h p1) p5 (0 : Int32)) * (10000000 : Int32)) + ((f3 (own_l p1) p5 (1 : Int32)) * (1000000 : Int32))) + ((f3 (own_h p2) p5 (2 : Int32)) * (100000 : Int32))) + ((f3 (own_l p2) p5 (3 : Int32)) * (10000 : Int32))) + ((f3 (own_h p3) p5 (4 : Int32)) * (1000 : Int32))) + ((f3 (own_l p3) p5 (5 : Int32)) * (100 : Int32))))])) _
    refine XS.imul X21.here hx rfl (hb hby at_290) rfl ?_
    show Steps p.tables e below (T21.setTop (mkF m 291 _ [(.int ((f3 (own_h p4) p5 (6 : Int32)) * (10 : Int32))), (.int (((((((f3 (own_h p1) p5 (0 : Int32)) * (10000000 : Int32)) + ((f3 (own_l p1) p5 (1 : Int32)) * (1000000 : Int32))) + ((f3 (own_h p2) p5 (2 : Int32)) * (100000 : Int32))) + ((f3 (own_l p2) p5 (3 : Int32)) * (10000 : Int32))) + ((f3 (own_h p3) p5 (4 : Int32)) * (1000 : Int32))) + ((f3 (own_l p3) p5 (5 : Int32)) * (100 : Int32))))])) _
    refine XS.iadd X21.here hx rfl (hb hby at_291) rfl ?_
    show Steps p.tables e below (T21.setTop (mkF m 292 _ [(.int ((((((((f3 (own_h p1) p5 (0 : Int32)) * (10000000 : Int32)) + ((f3 (own_l p1) p5 (1 : Int32)) * (1000000 : Int32))) + ((f3 (own_h p2) p5 (2 : Int32)) * (100000 : Int32))) + ((f3 (own_l p2) p5 (3 : Int32)) * (10000 : Int32))) + ((f3 (own_h p3) p5 (4 : Int32)) * (1000 : Int32))) + ((f3 (own_l p3) p5 (5 : Int32)) * (100 : Int32))) + ((f3 (own_h p4) p5 (6 : Int32)) * (10 : Int32))))])) _
    refine XS.iload X21.here hx rfl (hb hby at_292) rfl ?_
    show Steps p.tables e below (T21.setTop (mkF m 294 _ [(.int (f3 (own_l p4) p5 (7 : Int32))), (.int ((((((((f3 (own_h p1) p5 (0 : Int32)) * (10000000 : Int32)) + ((f3 (own_l p1) p5 (1 : Int32)) * (1000000 : Int32))) + ((f3 (own_h p2) p5 (2 : Int32)) * (100000 : Int32))) + ((f3 (own_l p2) p5 (3 : Int32)) * (10000 : Int32))) + ((f3 (own_h p3) p5 (4 : Int32)) * (1000 : Int32))) + ((f3 (own_l p3) p5 (5 : Int32)) * (100 : Int32))) + ((f3 (own_h p4) p5 (6 : Int32)) * (10 : Int32))))])) _
    refine XS.iadd X21.here hx rfl (hb hby at_294) rfl ?_
    show Steps p.tables e below (T21.setTop (mkF m 295 _ [(.int (((((((((f3 (own_h p1) p5 (0 : Int32)) * (10000000 : Int32)) + ((f3 (own_l p1) p5 (1 : Int32)) * (1000000 : Int32))) + ((f3 (own_h p2) p5 (2 : Int32)) * (100000 : Int32))) + ((f3 (own_l p2) p5 (3 : Int32)) * (10000 : Int32))) + ((f3 (own_h p3) p5 (4 : Int32)) * (1000 : Int32))) + ((f3 (own_l p3) p5 (5 : Int32)) * (100 : Int32))) + ((f3 (own_h p4) p5 (6 : Int32)) * (10 : Int32))) + (f3 (own_l p4) p5 (7 : Int32))))])) _
    refine XS.istore X21.here hx rfl (hb hby at_295) rfl (l' := #[.val (.int p1), .val (.int p2), .val (.int p3), .val (.int p4), .val (.int p5), .val (.int (own_a p1)), .val (.int (own_a p2)), .val (.int (own_a p3)), .val (.int (own_a p4)), .val (.int (own_h p1)), .val (.int (own_l p1)), .val (.int (own_h p2)), .val (.int (own_l p2)), .val (.int (own_h p3)), .val (.int (own_l p3)), .val (.int (own_h p4)), .val (.int (own_l p4)), .val (.long ((((((((f1 (own_h p1) p5 (0 : Int32)) ||| (f1 (own_l p1) p5 (1 : Int32))) ||| (f1 (own_h p2) p5 (2 : Int32))) ||| (f1 (own_l p2) p5 (3 : Int32))) ||| (f1 (own_h p3) p5 (4 : Int32))) ||| (f1 (own_l p3) p5 (5 : Int32))) ||| (f1 (own_h p4) p5 (6 : Int32))) ||| (f1 (own_l p4) p5 (7 : Int32)))), .second, .val (.int (f3 (own_h p1) p5 (0 : Int32))), .val (.int (f3 (own_l p1) p5 (1 : Int32))), .val (.int (f3 (own_h p2) p5 (2 : Int32))), .val (.int (f3 (own_l p2) p5 (3 : Int32))), .val (.int (f3 (own_h p3) p5 (4 : Int32))), .val (.int (f3 (own_l p3) p5 (5 : Int32))), .val (.int (f3 (own_h p4) p5 (6 : Int32))), .val (.int (f3 (own_l p4) p5 (7 : Int32))), .val (.int (((((((((f3 (own_h p1) p5 (0 : Int32)) * (10000000 : Int32)) + ((f3 (own_l p1) p5 (1 : Int32)) * (1000000 : Int32))) + ((f3 (own_h p2) p5 (2 : Int32)) * (100000 : Int32))) + ((f3 (own_l p2) p5 (3 : Int32)) * (10000 : Int32))) + ((f3 (own_h p3) p5 (4 : Int32)) * (1000 : Int32))) + ((f3 (own_l p3) p5 (5 : Int32)) * (100 : Int32))) + ((f3 (own_h p4) p5 (6 : Int32)) * (10 : Int32))) + (f3 (own_l p4) p5 (7 : Int32))))]) rfl ?_
    show Steps p.tables e below (T21.setTop (mkF m 297 _ [])) _
    refine XS.lload X21.here hx rfl (hb hby at_297) rfl ?_
    show Steps p.tables e below (T21.setTop (mkF m 299 _ [(.long ((((((((f1 (own_h p1) p5 (0 : Int32)) ||| (f1 (own_l p1) p5 (1 : Int32))) ||| (f1 (own_h p2) p5 (2 : Int32))) ||| (f1 (own_l p2) p5 (3 : Int32))) ||| (f1 (own_h p3) p5 (4 : Int32))) ||| (f1 (own_l p3) p5 (5 : Int32))) ||| (f1 (own_h p4) p5 (6 : Int32))) ||| (f1 (own_l p4) p5 (7 : Int32))))])) _
    refine st22 _ ?_
    show Steps p.tables e below (T22.setTop (mkF m 302 _ [(.int (f4 ((((((((f1 (own_h p1) p5 (0 : Int32)) ||| (f1 (own_l p1) p5 (1 : Int32))) ||| (f1 (own_h p2) p5 (2 : Int32))) ||| (f1 (own_l p2) p5 (3 : Int32))) ||| (f1 (own_h p3) p5 (4 : Int32))) ||| (f1 (own_l p3) p5 (5 : Int32))) ||| (f1 (own_h p4) p5 (6 : Int32))) ||| (f1 (own_l p4) p5 (7 : Int32)))))])) _
    refine XS.iload X22.here hx rfl (hb hby at_302) rfl ?_
    exact kt
  by_cases hc24 : (f4 ((((((((f1 (own_h p1) p5 (0 : Int32)) ||| (f1 (own_l p1) p5 (1 : Int32))) ||| (f1 (own_h p2) p5 (2 : Int32))) ||| (f1 (own_l p2) p5 (3 : Int32))) ||| (f1 (own_h p3) p5 (4 : Int32))) ||| (f1 (own_l p3) p5 (5 : Int32))) ||| (f1 (own_h p4) p5 (6 : Int32))) ||| (f1 (own_l p4) p5 (7 : Int32)))) = (((((((((f3 (own_h p1) p5 (0 : Int32)) * (10000000 : Int32)) + ((f3 (own_l p1) p5 (1 : Int32)) * (1000000 : Int32))) + ((f3 (own_h p2) p5 (2 : Int32)) * (100000 : Int32))) + ((f3 (own_l p2) p5 (3 : Int32)) * (10000 : Int32))) + ((f3 (own_h p3) p5 (4 : Int32)) * (1000 : Int32))) + ((f3 (own_l p3) p5 (5 : Int32)) * (100 : Int32))) + ((f3 (own_h p4) p5 (6 : Int32)) * (10 : Int32))) + (f3 (own_l p4) p5 (7 : Int32)))
  · skip
    obtain ⟨fs, hr, hrun, hended, hW, hsame⟩ := X22.leave (v := some (.int (1 : Int32))) (fun h => by rw [Bd.returns] at h; cases h) (by first | exact BodyLoose.notSynchronized Bd | exact Body.notSynchronized Bd)
    refine ⟨_, _, pre23 _ ?_, hrun, hended, _, _, rfl, ?_, ⟨_, rfl⟩, hW, hsame.mono (by decide) (by decide)⟩
    · show Steps p.tables e below (T22.setTop (mkF m 304 #[.val (.int p1), .val (.int p2), .val (.int p3), .val (.int p4), .val (.int p5), .val (.int (own_a p1)), .val (.int (own_a p2)), .val (.int (own_a p3)), .val (.int (own_a p4)), .val (.int (own_h p1)), .val (.int (own_l p1)), .val (.int (own_h p2)), .val (.int (own_l p2)), .val (.int (own_h p3)), .val (.int (own_l p3)), .val (.int (own_h p4)), .val (.int (own_l p4)), .val (.long ((((((((f1 (own_h p1) p5 (0 : Int32)) ||| (f1 (own_l p1) p5 (1 : Int32))) ||| (f1 (own_h p2) p5 (2 : Int32))) ||| (f1 (own_l p2) p5 (3 : Int32))) ||| (f1 (own_h p3) p5 (4 : Int32))) ||| (f1 (own_l p3) p5 (5 : Int32))) ||| (f1 (own_h p4) p5 (6 : Int32))) ||| (f1 (own_l p4) p5 (7 : Int32)))), .second, .val (.int (f3 (own_h p1) p5 (0 : Int32))), .val (.int (f3 (own_l p1) p5 (1 : Int32))), .val (.int (f3 (own_h p2) p5 (2 : Int32))), .val (.int (f3 (own_l p2) p5 (3 : Int32))), .val (.int (f3 (own_h p3) p5 (4 : Int32))), .val (.int (f3 (own_l p3) p5 (5 : Int32))), .val (.int (f3 (own_h p4) p5 (6 : Int32))), .val (.int (f3 (own_l p4) p5 (7 : Int32))), .val (.int (((((((((f3 (own_h p1) p5 (0 : Int32)) * (10000000 : Int32)) + ((f3 (own_l p1) p5 (1 : Int32)) * (1000000 : Int32))) + ((f3 (own_h p2) p5 (2 : Int32)) * (100000 : Int32))) + ((f3 (own_l p2) p5 (3 : Int32)) * (10000 : Int32))) + ((f3 (own_h p3) p5 (4 : Int32)) * (1000 : Int32))) + ((f3 (own_l p3) p5 (5 : Int32)) * (100 : Int32))) + ((f3 (own_h p4) p5 (6 : Int32)) * (10 : Int32))) + (f3 (own_l p4) p5 (7 : Int32))))] [(.int (((((((((f3 (own_h p1) p5 (0 : Int32)) * (10000000 : Int32)) + ((f3 (own_l p1) p5 (1 : Int32)) * (1000000 : Int32))) + ((f3 (own_h p2) p5 (2 : Int32)) * (100000 : Int32))) + ((f3 (own_l p2) p5 (3 : Int32)) * (10000 : Int32))) + ((f3 (own_h p3) p5 (4 : Int32)) * (1000 : Int32))) + ((f3 (own_l p3) p5 (5 : Int32)) * (100 : Int32))) + ((f3 (own_h p4) p5 (6 : Int32)) * (10 : Int32))) + (f3 (own_l p4) p5 (7 : Int32)))), (.int (f4 ((((((((f1 (own_h p1) p5 (0 : Int32)) ||| (f1 (own_l p1) p5 (1 : Int32))) ||| (f1 (own_h p2) p5 (2 : Int32))) ||| (f1 (own_l p2) p5 (3 : Int32))) ||| (f1 (own_h p3) p5 (4 : Int32))) ||| (f1 (own_l p3) p5 (5 : Int32))) ||| (f1 (own_h p4) p5 (6 : Int32))) ||| (f1 (own_l p4) p5 (7 : Int32)))))])) _
      refine XS.icmpNo X22.here hx rfl (hb hby at_304) rfl (teq hc24).2 ?_
      show Steps p.tables e below (T22.setTop (mkF m 307 _ [])) _
      refine XS.iconst X22.here hx rfl (hb hby at_307) ?_
      show Steps p.tables e below (T22.setTop (mkF m 308 _ [(.int (1 : Int32))])) _
      refine XS.goto X22.here hx rfl (pc0 := 308) (pc' := 312) rfl (hb hby at_308) (by decide) (by decide) ?_
      show Steps p.tables e below (T22.setTop (mkF m 312 #[.val (.int p1), .val (.int p2), .val (.int p3), .val (.int p4), .val (.int p5), .val (.int (own_a p1)), .val (.int (own_a p2)), .val (.int (own_a p3)), .val (.int (own_a p4)), .val (.int (own_h p1)), .val (.int (own_l p1)), .val (.int (own_h p2)), .val (.int (own_l p2)), .val (.int (own_h p3)), .val (.int (own_l p3)), .val (.int (own_h p4)), .val (.int (own_l p4)), .val (.long ((((((((f1 (own_h p1) p5 (0 : Int32)) ||| (f1 (own_l p1) p5 (1 : Int32))) ||| (f1 (own_h p2) p5 (2 : Int32))) ||| (f1 (own_l p2) p5 (3 : Int32))) ||| (f1 (own_h p3) p5 (4 : Int32))) ||| (f1 (own_l p3) p5 (5 : Int32))) ||| (f1 (own_h p4) p5 (6 : Int32))) ||| (f1 (own_l p4) p5 (7 : Int32)))), .second, .val (.int (f3 (own_h p1) p5 (0 : Int32))), .val (.int (f3 (own_l p1) p5 (1 : Int32))), .val (.int (f3 (own_h p2) p5 (2 : Int32))), .val (.int (f3 (own_l p2) p5 (3 : Int32))), .val (.int (f3 (own_h p3) p5 (4 : Int32))), .val (.int (f3 (own_l p3) p5 (5 : Int32))), .val (.int (f3 (own_h p4) p5 (6 : Int32))), .val (.int (f3 (own_l p4) p5 (7 : Int32))), .val (.int (((((((((f3 (own_h p1) p5 (0 : Int32)) * (10000000 : Int32)) + ((f3 (own_l p1) p5 (1 : Int32)) * (1000000 : Int32))) + ((f3 (own_h p2) p5 (2 : Int32)) * (100000 : Int32))) + ((f3 (own_l p2) p5 (3 : Int32)) * (10000 : Int32))) + ((f3 (own_h p3) p5 (4 : Int32)) * (1000 : Int32))) + ((f3 (own_l p3) p5 (5 : Int32)) * (100 : Int32))) + ((f3 (own_h p4) p5 (6 : Int32)) * (10 : Int32))) + (f3 (own_l p4) p5 (7 : Int32))))] [(.int (1 : Int32))])) _
      exact retN X22 hx (t := .boolean) Bd.returns (by simp) (hb hby at_312) hr
    · show Q0 Z p1 p2 p3 p4 p5 h0 n0 _ T22.heap _
      rw [e22]
      exact ⟨congrArg (fun z => some (Value.int z)) (by rw [f0, if_pos hc24] : f0 p1 p2 p3 p4 p5 = (1 : Int32)).symm, N22⟩
  · skip
    obtain ⟨fs, hr, hrun, hended, hW, hsame⟩ := X22.leave (v := some (.int (0 : Int32))) (fun h => by rw [Bd.returns] at h; cases h) (by first | exact BodyLoose.notSynchronized Bd | exact Body.notSynchronized Bd)
    refine ⟨_, _, pre23 _ ?_, hrun, hended, _, _, rfl, ?_, ⟨_, rfl⟩, hW, hsame.mono (by decide) (by decide)⟩
    · show Steps p.tables e below (T22.setTop (mkF m 304 #[.val (.int p1), .val (.int p2), .val (.int p3), .val (.int p4), .val (.int p5), .val (.int (own_a p1)), .val (.int (own_a p2)), .val (.int (own_a p3)), .val (.int (own_a p4)), .val (.int (own_h p1)), .val (.int (own_l p1)), .val (.int (own_h p2)), .val (.int (own_l p2)), .val (.int (own_h p3)), .val (.int (own_l p3)), .val (.int (own_h p4)), .val (.int (own_l p4)), .val (.long ((((((((f1 (own_h p1) p5 (0 : Int32)) ||| (f1 (own_l p1) p5 (1 : Int32))) ||| (f1 (own_h p2) p5 (2 : Int32))) ||| (f1 (own_l p2) p5 (3 : Int32))) ||| (f1 (own_h p3) p5 (4 : Int32))) ||| (f1 (own_l p3) p5 (5 : Int32))) ||| (f1 (own_h p4) p5 (6 : Int32))) ||| (f1 (own_l p4) p5 (7 : Int32)))), .second, .val (.int (f3 (own_h p1) p5 (0 : Int32))), .val (.int (f3 (own_l p1) p5 (1 : Int32))), .val (.int (f3 (own_h p2) p5 (2 : Int32))), .val (.int (f3 (own_l p2) p5 (3 : Int32))), .val (.int (f3 (own_h p3) p5 (4 : Int32))), .val (.int (f3 (own_l p3) p5 (5 : Int32))), .val (.int (f3 (own_h p4) p5 (6 : Int32))), .val (.int (f3 (own_l p4) p5 (7 : Int32))), .val (.int (((((((((f3 (own_h p1) p5 (0 : Int32)) * (10000000 : Int32)) + ((f3 (own_l p1) p5 (1 : Int32)) * (1000000 : Int32))) + ((f3 (own_h p2) p5 (2 : Int32)) * (100000 : Int32))) + ((f3 (own_l p2) p5 (3 : Int32)) * (10000 : Int32))) + ((f3 (own_h p3) p5 (4 : Int32)) * (1000 : Int32))) + ((f3 (own_l p3) p5 (5 : Int32)) * (100 : Int32))) + ((f3 (own_h p4) p5 (6 : Int32)) * (10 : Int32))) + (f3 (own_l p4) p5 (7 : Int32))))] [(.int (((((((((f3 (own_h p1) p5 (0 : Int32)) * (10000000 : Int32)) + ((f3 (own_l p1) p5 (1 : Int32)) * (1000000 : Int32))) + ((f3 (own_h p2) p5 (2 : Int32)) * (100000 : Int32))) + ((f3 (own_l p2) p5 (3 : Int32)) * (10000 : Int32))) + ((f3 (own_h p3) p5 (4 : Int32)) * (1000 : Int32))) + ((f3 (own_l p3) p5 (5 : Int32)) * (100 : Int32))) + ((f3 (own_h p4) p5 (6 : Int32)) * (10 : Int32))) + (f3 (own_l p4) p5 (7 : Int32)))), (.int (f4 ((((((((f1 (own_h p1) p5 (0 : Int32)) ||| (f1 (own_l p1) p5 (1 : Int32))) ||| (f1 (own_h p2) p5 (2 : Int32))) ||| (f1 (own_l p2) p5 (3 : Int32))) ||| (f1 (own_h p3) p5 (4 : Int32))) ||| (f1 (own_l p3) p5 (5 : Int32))) ||| (f1 (own_h p4) p5 (6 : Int32))) ||| (f1 (own_l p4) p5 (7 : Int32)))))])) _
      refine XS.icmpYes X22.here hx rfl (pc0 := 304) (pc' := 311) rfl (hb hby at_304) rfl (feq hc24).2 (by decide) (by decide) ?_
      show Steps p.tables e below (T22.setTop (mkF m 311 _ [])) _
      refine XS.iconst X22.here hx rfl (hb hby at_311) ?_
      show Steps p.tables e below (T22.setTop (mkF m 312 #[.val (.int p1), .val (.int p2), .val (.int p3), .val (.int p4), .val (.int p5), .val (.int (own_a p1)), .val (.int (own_a p2)), .val (.int (own_a p3)), .val (.int (own_a p4)), .val (.int (own_h p1)), .val (.int (own_l p1)), .val (.int (own_h p2)), .val (.int (own_l p2)), .val (.int (own_h p3)), .val (.int (own_l p3)), .val (.int (own_h p4)), .val (.int (own_l p4)), .val (.long ((((((((f1 (own_h p1) p5 (0 : Int32)) ||| (f1 (own_l p1) p5 (1 : Int32))) ||| (f1 (own_h p2) p5 (2 : Int32))) ||| (f1 (own_l p2) p5 (3 : Int32))) ||| (f1 (own_h p3) p5 (4 : Int32))) ||| (f1 (own_l p3) p5 (5 : Int32))) ||| (f1 (own_h p4) p5 (6 : Int32))) ||| (f1 (own_l p4) p5 (7 : Int32)))), .second, .val (.int (f3 (own_h p1) p5 (0 : Int32))), .val (.int (f3 (own_l p1) p5 (1 : Int32))), .val (.int (f3 (own_h p2) p5 (2 : Int32))), .val (.int (f3 (own_l p2) p5 (3 : Int32))), .val (.int (f3 (own_h p3) p5 (4 : Int32))), .val (.int (f3 (own_l p3) p5 (5 : Int32))), .val (.int (f3 (own_h p4) p5 (6 : Int32))), .val (.int (f3 (own_l p4) p5 (7 : Int32))), .val (.int (((((((((f3 (own_h p1) p5 (0 : Int32)) * (10000000 : Int32)) + ((f3 (own_l p1) p5 (1 : Int32)) * (1000000 : Int32))) + ((f3 (own_h p2) p5 (2 : Int32)) * (100000 : Int32))) + ((f3 (own_l p2) p5 (3 : Int32)) * (10000 : Int32))) + ((f3 (own_h p3) p5 (4 : Int32)) * (1000 : Int32))) + ((f3 (own_l p3) p5 (5 : Int32)) * (100 : Int32))) + ((f3 (own_h p4) p5 (6 : Int32)) * (10 : Int32))) + (f3 (own_l p4) p5 (7 : Int32))))] [(.int (0 : Int32))])) _
      exact retN X22 hx (t := .boolean) Bd.returns (by simp) (hb hby at_312) hr
    · show Q0 Z p1 p2 p3 p4 p5 h0 n0 _ T22.heap _
      rw [e22]
      exact ⟨congrArg (fun z => some (Value.int z)) (by rw [f0, if_neg hc24] : f0 p1 p2 p3 p4 p5 = (0 : Int32)).symm, N22⟩
def own_T (x : Int64) : Nat := x.toBitVec.toNat
theorem own_lane (k : Nat) {lo hi ml mh : Nat} (h : lo < 2 ^ k) (h2 : ml < 2 ^ k) : (lo + 2 ^ k * hi) &&& (ml + 2 ^ k * mh) = (lo &&& ml) + 2 ^ k * (hi &&& mh) := by
  have e1 := Nat.and_mod_two_pow (a := lo + 2 ^ k * hi) (b := ml + 2 ^ k * mh) (n := k)
  have e2 := Nat.and_div_two_pow (a := lo + 2 ^ k * hi) (b := ml + 2 ^ k * mh) (n := k)
  have hp : 0 < 2 ^ k := Nat.two_pow_pos k
  rw [Nat.add_mul_mod_self_left, Nat.add_mul_mod_self_left, Nat.mod_eq_of_lt h, Nat.mod_eq_of_lt h2] at e1
  rw [Nat.add_mul_div_left _ _ hp, Nat.add_mul_div_left _ _ hp, Nat.div_eq_of_lt h, Nat.div_eq_of_lt h2, Nat.zero_add, Nat.zero_add] at e2
  have e3 := Nat.mod_add_div ((lo + 2 ^ k * hi) &&& (ml + 2 ^ k * mh)) (2 ^ k)
  rw [e1, e2] at e3
  exact e3.symm
theorem own_l8 {lo hi ml mh : Nat} (h : lo < 256) (h2 : ml < 256) : (lo + 256 * hi) &&& (ml + 256 * mh) = (lo &&& ml) + 256 * (hi &&& mh) := own_lane 8 h h2
theorem own_l16 {lo hi ml mh : Nat} (h : lo < 65536) (h2 : ml < 65536) : (lo + 65536 * hi) &&& (ml + 65536 * mh) = (lo &&& ml) + 65536 * (hi &&& mh) := own_lane 16 h h2
theorem own_c8 {x : Nat} (h : x < 256) : x &&& 255 = x := Nat.and_two_pow_sub_one_of_lt_two_pow (n := 8) h
theorem own_c16 {x : Nat} (h : x < 65536) : x &&& 65535 = x := Nat.and_two_pow_sub_one_of_lt_two_pow (n := 16) h
theorem own_Tand (x y : Int64) : own_T (x &&& y) = own_T x &&& own_T y := by unfold own_T; rw [Int64.toBitVec_and, BitVec.toNat_and]
theorem own_Tor (x y : Int64) : own_T (x ||| y) = own_T x ||| own_T y := by unfold own_T; rw [Int64.toBitVec_or, BitVec.toNat_or]
theorem own_Tmul (x y : Int64) : own_T (x * y) = own_T x * own_T y % 18446744073709551616 := by unfold own_T; rw [Int64.toBitVec_mul, BitVec.toNat_mul]
theorem own_Tsh (x : Int64) (n : UInt64) (k : Nat) (h : (n.toBitVec % 64).toNat = k) : own_T ((x.toUInt64 >>> n).toInt64) = own_T x / 2 ^ k := by
  unfold own_T
  show ((x.toUInt64 >>> n).toBitVec).toNat = _
  rw [UInt64.toBitVec_shiftRight, BitVec.ushiftRight_eq', h, BitVec.toNat_ushiftRight, Nat.shiftRight_eq_div_pow]
  rfl
theorem own_mid (X lo hi k b : Nat) (hb : 0 < b) (hlo : lo < b) (hX : X = (lo + b * hi) + 18446744073709551616 * k) (hlt : lo + b * hi < 18446744073709551616) : X % 18446744073709551616 / b = hi := by
  rw [hX, Nat.add_mul_mod_self_left, Nat.mod_eq_of_lt hlt, Nat.add_mul_div_left _ _ hb, Nat.div_eq_of_lt hlo, Nat.zero_add]
theorem own_s1 (e0 e1 e2 e3 e4 e5 e6 e7 : Nat) (h0 : e0 ≤ 9) (h1 : e1 ≤ 9) (h2 : e2 ≤ 9) (h3 : e3 ≤ 9) (h4 : e4 ≤ 9) (h5 : e5 ≤ 9) (h6 : e6 ≤ 9) (h7 : e7 ≤ 9) : (e0 + 256 * (e1 + 256 * (e2 + 256 * (e3 + 256 * (e4 + 256 * (e5 + 256 * (e6 + 256 * (e7)))))))) * 2561 % 18446744073709551616 / 256 = (e1 + 10 * e0) + 256 * ((e2 + 10 * e1) + 256 * ((e3 + 10 * e2) + 256 * ((e4 + 10 * e3) + 256 * ((e5 + 10 * e4) + 256 * ((e6 + 10 * e5) + 256 * ((e7 + 10 * e6))))))) :=
  own_mid _ e0 _ (10 * e7) 256 (by decide) (by omega) (by omega) (by omega)
theorem own_k2 (c1 c2 c3 c4 c5 c6 c7 : Nat) (h1 : c1 < 256) (h2 : c2 < 256) (h3 : c3 < 256) (h4 : c4 < 256) (h5 : c5 < 256) (h6 : c6 < 256) (h7 : c7 < 256) : (c1 + 256 * (c2 + 256 * (c3 + 256 * (c4 + 256 * (c5 + 256 * (c6 + 256 * (c7))))))) &&& (255 + 256 * (0 + 256 * (255 + 256 * (0 + 256 * (255 + 256 * (0 + 256 * (255))))))) = c1 + 65536 * (c3 + 65536 * (c5 + 65536 * (c7))) := by
  rw [own_l8 h1 (by decide), own_l8 h2 (by decide), own_l8 h3 (by decide), own_l8 h4 (by decide), own_l8 h5 (by decide), own_l8 h6 (by decide)]
  rw [own_c8 h1, own_c8 h3, own_c8 h5, own_c8 h7, Nat.and_zero, Nat.and_zero, Nat.and_zero]
  omega
theorem own_s2 (c1 c3 c5 c7 : Nat) (h1 : c1 ≤ 99) (h3 : c3 ≤ 99) (h5 : c5 ≤ 99) (h7 : c7 ≤ 99) : (c1 + 65536 * (c3 + 65536 * (c5 + 65536 * (c7)))) * 6553601 % 18446744073709551616 / 65536 = (c3 + 100 * c1) + 65536 * ((c5 + 100 * c3) + 65536 * ((c7 + 100 * c5))) :=
  own_mid _ c1 _ (100 * c7) 65536 (by decide) (by omega) (by omega) (by omega)
theorem own_k3 (d0 d1 d2 : Nat) (h0 : d0 < 65536) (h1 : d1 < 65536) (h2 : d2 < 65536) : (d0 + 65536 * (d1 + 65536 * (d2))) &&& (65535 + 65536 * (0 + 65536 * (65535))) = d0 + 4294967296 * d2 := by
  rw [own_l16 h0 (by decide), own_l16 h1 (by decide), own_c16 h0, own_c16 h2, Nat.and_zero]
  omega
theorem own_s3 (d0 d2 : Nat) (h0 : d0 ≤ 9999) (h2 : d2 ≤ 9999) : (d0 + 4294967296 * d2) * 42949672960001 % 18446744073709551616 / 4294967296 = d2 + 10000 * d0 :=
  own_mid _ d0 _ (10000 * d2) 4294967296 (by decide) (by omega) (by omega) (by omega)
theorem own_num (q : Int64) (e0 e1 e2 e3 e4 e5 e6 e7 b0 b1 b2 b3 b4 b5 b6 b7 : Nat) (h0 : e0 ≤ 9) (h1 : e1 ≤ 9) (h2 : e2 ≤ 9) (h3 : e3 ≤ 9) (h4 : e4 ≤ 9) (h5 : e5 ≤ 9) (h6 : e6 ≤ 9) (h7 : e7 ≤ 9) (g0 : b0 < 256 ∧ b0 &&& 15 = e0) (g1 : b1 < 256 ∧ b1 &&& 15 = e1) (g2 : b2 < 256 ∧ b2 &&& 15 = e2) (g3 : b3 < 256 ∧ b3 &&& 15 = e3) (g4 : b4 < 256 ∧ b4 &&& 15 = e4) (g5 : b5 < 256 ∧ b5 &&& 15 = e5) (g6 : b6 < 256 ∧ b6 &&& 15 = e6) (g7 : b7 < 256 ∧ b7 &&& 15 = e7) (hq : own_T q = b0 + 256 * (b1 + 256 * (b2 + 256 * (b3 + 256 * (b4 + 256 * (b5 + 256 * (b6 + 256 * (b7)))))))) : (f4 q).toInt = ((e0 * 10000000 + e1 * 1000000 + e2 * 100000 + e3 * 10000 + e4 * 1000 + e5 * 100 + e6 * 10 + e7 * 1 : Nat) : Int) := by
  have n1 : own_T (q &&& (1085102592571150095 : Int64)) = e0 + 256 * (e1 + 256 * (e2 + 256 * (e3 + 256 * (e4 + 256 * (e5 + 256 * (e6 + 256 * (e7))))))) := by
    rw [own_Tand, hq, show own_T (1085102592571150095 : Int64) = 15 + 256 * (15 + 256 * (15 + 256 * (15 + 256 * (15 + 256 * (15 + 256 * (15 + 256 * (15))))))) by decide]
    rw [own_l8 g0.1 (by decide), own_l8 g1.1 (by decide), own_l8 g2.1 (by decide), own_l8 g3.1 (by decide), own_l8 g4.1 (by decide), own_l8 g5.1 (by decide), own_l8 g6.1 (by decide)]
    rw [g0.2, g1.2, g2.2, g3.2, g4.2, g5.2, g6.2, g7.2]
  clear hq g0 g1 g2 g3 g4 g5 g6 g7
  have n3 : own_T (((((q &&& (1085102592571150095 : Int64)) * (2561 : Int64)).toUInt64 >>> ((8 : Int32) &&& 0x3f).toInt64.toUInt64).toInt64) &&& (71777214294589695 : Int64)) = (e1 + 10 * e0) + 65536 * ((e3 + 10 * e2) + 65536 * ((e5 + 10 * e4) + 65536 * ((e7 + 10 * e6)))) := by
    rw [own_Tand, own_Tsh _ _ 8 (by decide), own_Tmul, n1, show own_T (2561 : Int64) = 2561 by decide, show (2 : Nat) ^ 8 = 256 by decide, own_s1 _ _ _ _ _ _ _ _ h0 h1 h2 h3 h4 h5 h6 h7, show own_T (71777214294589695 : Int64) = 255 + 256 * (0 + 256 * (255 + 256 * (0 + 256 * (255 + 256 * (0 + 256 * (255)))))) by decide]
    exact own_k2 _ _ _ _ _ _ _ (by omega) (by omega) (by omega) (by omega) (by omega) (by omega) (by omega)
  generalize hv2 : (((((q &&& (1085102592571150095 : Int64)) * (2561 : Int64)).toUInt64 >>> ((8 : Int32) &&& 0x3f).toInt64.toUInt64).toInt64) &&& (71777214294589695 : Int64)) = v2 at *
  have n5 : own_T (((((v2) * (6553601 : Int64)).toUInt64 >>> ((16 : Int32) &&& 0x3f).toInt64.toUInt64).toInt64) &&& (281470681808895 : Int64)) = ((e3 + 10 * e2) + 100 * (e1 + 10 * e0)) + 4294967296 * ((e7 + 10 * e6) + 100 * (e5 + 10 * e4)) := by
    rw [own_Tand, own_Tsh _ _ 16 (by decide), own_Tmul, n3, show own_T (6553601 : Int64) = 6553601 by decide, show (2 : Nat) ^ 16 = 65536 by decide, own_s2 _ _ _ _ (by omega) (by omega) (by omega) (by omega), show own_T (281470681808895 : Int64) = 65535 + 65536 * (0 + 65536 * (65535)) by decide]
    exact own_k3 _ _ _ (by omega) (by omega) (by omega)
  have n6 : own_T (((((((((v2) * (6553601 : Int64)).toUInt64 >>> ((16 : Int32) &&& 0x3f).toInt64.toUInt64).toInt64) &&& (281470681808895 : Int64)) * (42949672960001 : Int64)).toUInt64 >>> ((32 : Int32) &&& 0x3f).toInt64.toUInt64).toInt64)) = ((e7 + 10 * e6) + 100 * (e5 + 10 * e4)) + 10000 * ((e3 + 10 * e2) + 100 * (e1 + 10 * e0)) := by
    rw [own_Tsh _ _ 32 (by decide), own_Tmul, n5, show own_T (42949672960001 : Int64) = 42949672960001 by decide, show (2 : Nat) ^ 32 = 4294967296 by decide]
    exact own_s3 _ _ (by omega) (by omega)
  have hf : f4 q = (((((((((v2) * (6553601 : Int64)).toUInt64 >>> ((16 : Int32) &&& 0x3f).toInt64.toUInt64).toInt64) &&& (281470681808895 : Int64)) * (42949672960001 : Int64)).toUInt64 >>> ((32 : Int32) &&& 0x3f).toInt64.toUInt64).toInt64)).toInt32 := by
    unfold f4
    rw [hv2]
  rw [hf]
  generalize (((((((((v2) * (6553601 : Int64)).toUInt64 >>> ((16 : Int32) &&& 0x3f).toInt64.toUInt64).toInt64) &&& (281470681808895 : Int64)) * (42949672960001 : Int64)).toUInt64 >>> ((32 : Int32) &&& 0x3f).toInt64.toUInt64).toInt64)) = v3 at *
  clear n1 n3 n5 hf hv2
  have h1' := c_l2i v3
  have h2' := rng32 v3.toInt32
  have h3' : v3.toInt = (own_T v3 : Int) := by
    show v3.toBitVec.toInt = _
    rw [BitVec.toInt_eq_toNat_of_lt]
    · rfl
    · show 2 * own_T v3 < 2 ^ 64
      omega
  omega
theorem own_of (c : Int32) (n : Nat) (h : c.toInt = n) : c = Int32.ofNat n := by
  have h1 := rng32 c
  apply Int32.toInt_inj.mp
  rw [h, Int32.toInt_ofNat_small (by omega)]
theorem own_pl0 : ∀ n : Fin 10, own_T (((48 : Int64) + (Int32.ofNat n.val).toInt64) <<< (((8 : Int32) * (0 : Int32)) &&& 0x3f).toInt64) = (48 + n.val) * 256 ^ 0 := by decide +kernel
theorem own_p0 (d z : Int32) (h : 0 ≤ d.toInt ∧ d.toInt ≤ 9) : ∃ b e : Nat, own_T (f1 d z (0 : Int32)) = b * 256 ^ 0 ∧ (f3 d z (0 : Int32)).toInt = e ∧ e ≤ 9 ∧ b < 256 ∧ b &&& 15 = e := by
  unfold f1 f3
  by_cases hz : f2 z (0 : Int32) = (0 : Int32)
  · rw [if_pos hz, if_pos hz]
    obtain ⟨n, hn⟩ := Int.eq_ofNat_of_zero_le h.1
    have hd := own_of d n hn
    have h10 : n < 10 := by omega
    have hp := own_pl0 ⟨n, h10⟩
    refine ⟨48 + n, n, ?_, hn, by omega, by omega, ?_⟩
    · rw [hd]; exact hp
    · have : ∀ m : Fin 10, (48 + m.val) &&& 15 = m.val := by decide
      exact this ⟨n, h10⟩
  · rw [if_neg hz, if_neg hz]
    exact ⟨0, 0, by decide, by decide, by decide, by decide, by decide⟩
theorem own_pl1 : ∀ n : Fin 10, own_T (((48 : Int64) + (Int32.ofNat n.val).toInt64) <<< (((8 : Int32) * (1 : Int32)) &&& 0x3f).toInt64) = (48 + n.val) * 256 ^ 1 := by decide +kernel
theorem own_p1 (d z : Int32) (h : 0 ≤ d.toInt ∧ d.toInt ≤ 9) : ∃ b e : Nat, own_T (f1 d z (1 : Int32)) = b * 256 ^ 1 ∧ (f3 d z (1 : Int32)).toInt = e ∧ e ≤ 9 ∧ b < 256 ∧ b &&& 15 = e := by
  unfold f1 f3
  by_cases hz : f2 z (1 : Int32) = (0 : Int32)
  · rw [if_pos hz, if_pos hz]
    obtain ⟨n, hn⟩ := Int.eq_ofNat_of_zero_le h.1
    have hd := own_of d n hn
    have h10 : n < 10 := by omega
    have hp := own_pl1 ⟨n, h10⟩
    refine ⟨48 + n, n, ?_, hn, by omega, by omega, ?_⟩
    · rw [hd]; exact hp
    · have : ∀ m : Fin 10, (48 + m.val) &&& 15 = m.val := by decide
      exact this ⟨n, h10⟩
  · rw [if_neg hz, if_neg hz]
    exact ⟨0, 0, by decide, by decide, by decide, by decide, by decide⟩
theorem own_pl2 : ∀ n : Fin 10, own_T (((48 : Int64) + (Int32.ofNat n.val).toInt64) <<< (((8 : Int32) * (2 : Int32)) &&& 0x3f).toInt64) = (48 + n.val) * 256 ^ 2 := by decide +kernel
theorem own_p2 (d z : Int32) (h : 0 ≤ d.toInt ∧ d.toInt ≤ 9) : ∃ b e : Nat, own_T (f1 d z (2 : Int32)) = b * 256 ^ 2 ∧ (f3 d z (2 : Int32)).toInt = e ∧ e ≤ 9 ∧ b < 256 ∧ b &&& 15 = e := by
  unfold f1 f3
  by_cases hz : f2 z (2 : Int32) = (0 : Int32)
  · rw [if_pos hz, if_pos hz]
    obtain ⟨n, hn⟩ := Int.eq_ofNat_of_zero_le h.1
    have hd := own_of d n hn
    have h10 : n < 10 := by omega
    have hp := own_pl2 ⟨n, h10⟩
    refine ⟨48 + n, n, ?_, hn, by omega, by omega, ?_⟩
    · rw [hd]; exact hp
    · have : ∀ m : Fin 10, (48 + m.val) &&& 15 = m.val := by decide
      exact this ⟨n, h10⟩
  · rw [if_neg hz, if_neg hz]
    exact ⟨0, 0, by decide, by decide, by decide, by decide, by decide⟩
theorem own_pl3 : ∀ n : Fin 10, own_T (((48 : Int64) + (Int32.ofNat n.val).toInt64) <<< (((8 : Int32) * (3 : Int32)) &&& 0x3f).toInt64) = (48 + n.val) * 256 ^ 3 := by decide +kernel
theorem own_p3 (d z : Int32) (h : 0 ≤ d.toInt ∧ d.toInt ≤ 9) : ∃ b e : Nat, own_T (f1 d z (3 : Int32)) = b * 256 ^ 3 ∧ (f3 d z (3 : Int32)).toInt = e ∧ e ≤ 9 ∧ b < 256 ∧ b &&& 15 = e := by
  unfold f1 f3
  by_cases hz : f2 z (3 : Int32) = (0 : Int32)
  · rw [if_pos hz, if_pos hz]
    obtain ⟨n, hn⟩ := Int.eq_ofNat_of_zero_le h.1
    have hd := own_of d n hn
    have h10 : n < 10 := by omega
    have hp := own_pl3 ⟨n, h10⟩
    refine ⟨48 + n, n, ?_, hn, by omega, by omega, ?_⟩
    · rw [hd]; exact hp
    · have : ∀ m : Fin 10, (48 + m.val) &&& 15 = m.val := by decide
      exact this ⟨n, h10⟩
  · rw [if_neg hz, if_neg hz]
    exact ⟨0, 0, by decide, by decide, by decide, by decide, by decide⟩
theorem own_pl4 : ∀ n : Fin 10, own_T (((48 : Int64) + (Int32.ofNat n.val).toInt64) <<< (((8 : Int32) * (4 : Int32)) &&& 0x3f).toInt64) = (48 + n.val) * 256 ^ 4 := by decide +kernel
theorem own_p4 (d z : Int32) (h : 0 ≤ d.toInt ∧ d.toInt ≤ 9) : ∃ b e : Nat, own_T (f1 d z (4 : Int32)) = b * 256 ^ 4 ∧ (f3 d z (4 : Int32)).toInt = e ∧ e ≤ 9 ∧ b < 256 ∧ b &&& 15 = e := by
  unfold f1 f3
  by_cases hz : f2 z (4 : Int32) = (0 : Int32)
  · rw [if_pos hz, if_pos hz]
    obtain ⟨n, hn⟩ := Int.eq_ofNat_of_zero_le h.1
    have hd := own_of d n hn
    have h10 : n < 10 := by omega
    have hp := own_pl4 ⟨n, h10⟩
    refine ⟨48 + n, n, ?_, hn, by omega, by omega, ?_⟩
    · rw [hd]; exact hp
    · have : ∀ m : Fin 10, (48 + m.val) &&& 15 = m.val := by decide
      exact this ⟨n, h10⟩
  · rw [if_neg hz, if_neg hz]
    exact ⟨0, 0, by decide, by decide, by decide, by decide, by decide⟩
theorem own_pl5 : ∀ n : Fin 10, own_T (((48 : Int64) + (Int32.ofNat n.val).toInt64) <<< (((8 : Int32) * (5 : Int32)) &&& 0x3f).toInt64) = (48 + n.val) * 256 ^ 5 := by decide +kernel
theorem own_p5 (d z : Int32) (h : 0 ≤ d.toInt ∧ d.toInt ≤ 9) : ∃ b e : Nat, own_T (f1 d z (5 : Int32)) = b * 256 ^ 5 ∧ (f3 d z (5 : Int32)).toInt = e ∧ e ≤ 9 ∧ b < 256 ∧ b &&& 15 = e := by
  unfold f1 f3
  by_cases hz : f2 z (5 : Int32) = (0 : Int32)
  · rw [if_pos hz, if_pos hz]
    obtain ⟨n, hn⟩ := Int.eq_ofNat_of_zero_le h.1
    have hd := own_of d n hn
    have h10 : n < 10 := by omega
    have hp := own_pl5 ⟨n, h10⟩
    refine ⟨48 + n, n, ?_, hn, by omega, by omega, ?_⟩
    · rw [hd]; exact hp
    · have : ∀ m : Fin 10, (48 + m.val) &&& 15 = m.val := by decide
      exact this ⟨n, h10⟩
  · rw [if_neg hz, if_neg hz]
    exact ⟨0, 0, by decide, by decide, by decide, by decide, by decide⟩
theorem own_pl6 : ∀ n : Fin 10, own_T (((48 : Int64) + (Int32.ofNat n.val).toInt64) <<< (((8 : Int32) * (6 : Int32)) &&& 0x3f).toInt64) = (48 + n.val) * 256 ^ 6 := by decide +kernel
theorem own_p6 (d z : Int32) (h : 0 ≤ d.toInt ∧ d.toInt ≤ 9) : ∃ b e : Nat, own_T (f1 d z (6 : Int32)) = b * 256 ^ 6 ∧ (f3 d z (6 : Int32)).toInt = e ∧ e ≤ 9 ∧ b < 256 ∧ b &&& 15 = e := by
  unfold f1 f3
  by_cases hz : f2 z (6 : Int32) = (0 : Int32)
  · rw [if_pos hz, if_pos hz]
    obtain ⟨n, hn⟩ := Int.eq_ofNat_of_zero_le h.1
    have hd := own_of d n hn
    have h10 : n < 10 := by omega
    have hp := own_pl6 ⟨n, h10⟩
    refine ⟨48 + n, n, ?_, hn, by omega, by omega, ?_⟩
    · rw [hd]; exact hp
    · have : ∀ m : Fin 10, (48 + m.val) &&& 15 = m.val := by decide
      exact this ⟨n, h10⟩
  · rw [if_neg hz, if_neg hz]
    exact ⟨0, 0, by decide, by decide, by decide, by decide, by decide⟩
theorem own_pl7 : ∀ n : Fin 10, own_T (((48 : Int64) + (Int32.ofNat n.val).toInt64) <<< (((8 : Int32) * (7 : Int32)) &&& 0x3f).toInt64) = (48 + n.val) * 256 ^ 7 := by decide +kernel
theorem own_p7 (d z : Int32) (h : 0 ≤ d.toInt ∧ d.toInt ≤ 9) : ∃ b e : Nat, own_T (f1 d z (7 : Int32)) = b * 256 ^ 7 ∧ (f3 d z (7 : Int32)).toInt = e ∧ e ≤ 9 ∧ b < 256 ∧ b &&& 15 = e := by
  unfold f1 f3
  by_cases hz : f2 z (7 : Int32) = (0 : Int32)
  · rw [if_pos hz, if_pos hz]
    obtain ⟨n, hn⟩ := Int.eq_ofNat_of_zero_le h.1
    have hd := own_of d n hn
    have h10 : n < 10 := by omega
    have hp := own_pl7 ⟨n, h10⟩
    refine ⟨48 + n, n, ?_, hn, by omega, by omega, ?_⟩
    · rw [hd]; exact hp
    · have : ∀ m : Fin 10, (48 + m.val) &&& 15 = m.val := by decide
      exact this ⟨n, h10⟩
  · rw [if_neg hz, if_neg hz]
    exact ⟨0, 0, by decide, by decide, by decide, by decide, by decide⟩
theorem own_or (k : Nat) {x b : Nat} (h : x < 2 ^ k) : x ||| b * 2 ^ k = x + b * 2 ^ k := by
  rw [Nat.or_comm, Nat.mul_comm, ← Nat.two_pow_add_eq_or_of_lt h, Nat.add_comm]
theorem own_word (b0 b1 b2 b3 b4 b5 b6 b7 : Nat) (g0 : b0 < 256) (g1 : b1 < 256) (g2 : b2 < 256) (g3 : b3 < 256) (g4 : b4 < 256) (g5 : b5 < 256) (g6 : b6 < 256) (g7 : b7 < 256) : (((((((b0 * 256 ^ 0 ||| b1 * 256 ^ 1) ||| b2 * 256 ^ 2) ||| b3 * 256 ^ 3) ||| b4 * 256 ^ 4) ||| b5 * 256 ^ 5) ||| b6 * 256 ^ 6) ||| b7 * 256 ^ 7) = b0 + 256 * (b1 + 256 * (b2 + 256 * (b3 + 256 * (b4 + 256 * (b5 + 256 * (b6 + 256 * (b7))))))) := by
  have x0 : b0 * 256 ^ 0 < 2 ^ 8 := by omega
  have y1 : (b0 * 256 ^ 0) ||| b1 * 256 ^ 1 = b0 * 256 ^ 0 + b1 * 256 ^ 1 := own_or 8 (b := b1) x0
  rw [y1]
  have x1 : b0 * 256 ^ 0 + b1 * 256 ^ 1 < 2 ^ 16 := by omega
  have y2 : (b0 * 256 ^ 0 + b1 * 256 ^ 1) ||| b2 * 256 ^ 2 = b0 * 256 ^ 0 + b1 * 256 ^ 1 + b2 * 256 ^ 2 := own_or 16 (b := b2) x1
  rw [y2]
  have x2 : b0 * 256 ^ 0 + b1 * 256 ^ 1 + b2 * 256 ^ 2 < 2 ^ 24 := by omega
  have y3 : (b0 * 256 ^ 0 + b1 * 256 ^ 1 + b2 * 256 ^ 2) ||| b3 * 256 ^ 3 = b0 * 256 ^ 0 + b1 * 256 ^ 1 + b2 * 256 ^ 2 + b3 * 256 ^ 3 := own_or 24 (b := b3) x2
  rw [y3]
  have x3 : b0 * 256 ^ 0 + b1 * 256 ^ 1 + b2 * 256 ^ 2 + b3 * 256 ^ 3 < 2 ^ 32 := by omega
  have y4 : (b0 * 256 ^ 0 + b1 * 256 ^ 1 + b2 * 256 ^ 2 + b3 * 256 ^ 3) ||| b4 * 256 ^ 4 = b0 * 256 ^ 0 + b1 * 256 ^ 1 + b2 * 256 ^ 2 + b3 * 256 ^ 3 + b4 * 256 ^ 4 := own_or 32 (b := b4) x3
  rw [y4]
  have x4 : b0 * 256 ^ 0 + b1 * 256 ^ 1 + b2 * 256 ^ 2 + b3 * 256 ^ 3 + b4 * 256 ^ 4 < 2 ^ 40 := by omega
  have y5 : (b0 * 256 ^ 0 + b1 * 256 ^ 1 + b2 * 256 ^ 2 + b3 * 256 ^ 3 + b4 * 256 ^ 4) ||| b5 * 256 ^ 5 = b0 * 256 ^ 0 + b1 * 256 ^ 1 + b2 * 256 ^ 2 + b3 * 256 ^ 3 + b4 * 256 ^ 4 + b5 * 256 ^ 5 := own_or 40 (b := b5) x4
  rw [y5]
  have x5 : b0 * 256 ^ 0 + b1 * 256 ^ 1 + b2 * 256 ^ 2 + b3 * 256 ^ 3 + b4 * 256 ^ 4 + b5 * 256 ^ 5 < 2 ^ 48 := by omega
  have y6 : (b0 * 256 ^ 0 + b1 * 256 ^ 1 + b2 * 256 ^ 2 + b3 * 256 ^ 3 + b4 * 256 ^ 4 + b5 * 256 ^ 5) ||| b6 * 256 ^ 6 = b0 * 256 ^ 0 + b1 * 256 ^ 1 + b2 * 256 ^ 2 + b3 * 256 ^ 3 + b4 * 256 ^ 4 + b5 * 256 ^ 5 + b6 * 256 ^ 6 := own_or 48 (b := b6) x5
  rw [y6]
  have x6 : b0 * 256 ^ 0 + b1 * 256 ^ 1 + b2 * 256 ^ 2 + b3 * 256 ^ 3 + b4 * 256 ^ 4 + b5 * 256 ^ 5 + b6 * 256 ^ 6 < 2 ^ 56 := by omega
  have y7 : (b0 * 256 ^ 0 + b1 * 256 ^ 1 + b2 * 256 ^ 2 + b3 * 256 ^ 3 + b4 * 256 ^ 4 + b5 * 256 ^ 5 + b6 * 256 ^ 6) ||| b7 * 256 ^ 7 = b0 * 256 ^ 0 + b1 * 256 ^ 1 + b2 * 256 ^ 2 + b3 * 256 ^ 3 + b4 * 256 ^ 4 + b5 * 256 ^ 5 + b6 * 256 ^ 6 + b7 * 256 ^ 7 := own_or 56 (b := b7) x6
  rw [y7]
  have x7 : b0 * 256 ^ 0 + b1 * 256 ^ 1 + b2 * 256 ^ 2 + b3 * 256 ^ 3 + b4 * 256 ^ 4 + b5 * 256 ^ 5 + b6 * 256 ^ 6 + b7 * 256 ^ 7 < 2 ^ 64 := by omega
  omega
theorem own_sum (d0 d1 d2 d3 d4 d5 d6 d7 : Int32) (e0 e1 e2 e3 e4 e5 e6 e7 : Nat) (v0 : d0.toInt = (e0 : Nat)) (h0 : e0 ≤ 9) (v1 : d1.toInt = (e1 : Nat)) (h1 : e1 ≤ 9) (v2 : d2.toInt = (e2 : Nat)) (h2 : e2 ≤ 9) (v3 : d3.toInt = (e3 : Nat)) (h3 : e3 ≤ 9) (v4 : d4.toInt = (e4 : Nat)) (h4 : e4 ≤ 9) (v5 : d5.toInt = (e5 : Nat)) (h5 : e5 ≤ 9) (v6 : d6.toInt = (e6 : Nat)) (h6 : e6 ≤ 9) (v7 : d7.toInt = (e7 : Nat)) (h7 : e7 ≤ 9) : ((((((((d0 * (10000000 : Int32)) + (d1 * (1000000 : Int32))) + (d2 * (100000 : Int32))) + (d3 * (10000 : Int32))) + (d4 * (1000 : Int32))) + (d5 * (100 : Int32))) + (d6 * (10 : Int32))) + d7).toInt = ((e0 * 10000000 + e1 * 1000000 + e2 * 100000 + e3 * 10000 + e4 * 1000 + e5 * 100 + e6 * 10 + e7 * 1 : Nat) : Int) := by
  have k0 : (10000000 : Int32).toInt = 10000000 := by decide
  have m0 : (d0 * (10000000 : Int32)).toInt = (e0 : Int) * 10000000 := by
    rw [Jvm.Kit.i32_mul (by rw [k0]; omega) (by rw [k0]; omega), k0, v0]
  have k1 : (1000000 : Int32).toInt = 1000000 := by decide
  have m1 : (d1 * (1000000 : Int32)).toInt = (e1 : Int) * 1000000 := by
    rw [Jvm.Kit.i32_mul (by rw [k1]; omega) (by rw [k1]; omega), k1, v1]
  have k2 : (100000 : Int32).toInt = 100000 := by decide
  have m2 : (d2 * (100000 : Int32)).toInt = (e2 : Int) * 100000 := by
    rw [Jvm.Kit.i32_mul (by rw [k2]; omega) (by rw [k2]; omega), k2, v2]
  have k3 : (10000 : Int32).toInt = 10000 := by decide
  have m3 : (d3 * (10000 : Int32)).toInt = (e3 : Int) * 10000 := by
    rw [Jvm.Kit.i32_mul (by rw [k3]; omega) (by rw [k3]; omega), k3, v3]
  have k4 : (1000 : Int32).toInt = 1000 := by decide
  have m4 : (d4 * (1000 : Int32)).toInt = (e4 : Int) * 1000 := by
    rw [Jvm.Kit.i32_mul (by rw [k4]; omega) (by rw [k4]; omega), k4, v4]
  have k5 : (100 : Int32).toInt = 100 := by decide
  have m5 : (d5 * (100 : Int32)).toInt = (e5 : Int) * 100 := by
    rw [Jvm.Kit.i32_mul (by rw [k5]; omega) (by rw [k5]; omega), k5, v5]
  have k6 : (10 : Int32).toInt = 10 := by decide
  have m6 : (d6 * (10 : Int32)).toInt = (e6 : Int) * 10 := by
    rw [Jvm.Kit.i32_mul (by rw [k6]; omega) (by rw [k6]; omega), k6, v6]
  have a1 : ((d0 * (10000000 : Int32)) + (d1 * (1000000 : Int32))).toInt = (e0 : Int) * 10000000 + (e1 : Int) * 1000000 := by
    rw [Jvm.Kit.i32_add (by rw [m0, m1]; omega) (by rw [m0, m1]; omega), m0, m1]
  have a2 : (((d0 * (10000000 : Int32)) + (d1 * (1000000 : Int32))) + (d2 * (100000 : Int32))).toInt = (e0 : Int) * 10000000 + (e1 : Int) * 1000000 + (e2 : Int) * 100000 := by
    rw [Jvm.Kit.i32_add (by rw [a1, m2]; omega) (by rw [a1, m2]; omega), a1, m2]
  have a3 : ((((d0 * (10000000 : Int32)) + (d1 * (1000000 : Int32))) + (d2 * (100000 : Int32))) + (d3 * (10000 : Int32))).toInt = (e0 : Int) * 10000000 + (e1 : Int) * 1000000 + (e2 : Int) * 100000 + (e3 : Int) * 10000 := by
    rw [Jvm.Kit.i32_add (by rw [a2, m3]; omega) (by rw [a2, m3]; omega), a2, m3]
  have a4 : (((((d0 * (10000000 : Int32)) + (d1 * (1000000 : Int32))) + (d2 * (100000 : Int32))) + (d3 * (10000 : Int32))) + (d4 * (1000 : Int32))).toInt = (e0 : Int) * 10000000 + (e1 : Int) * 1000000 + (e2 : Int) * 100000 + (e3 : Int) * 10000 + (e4 : Int) * 1000 := by
    rw [Jvm.Kit.i32_add (by rw [a3, m4]; omega) (by rw [a3, m4]; omega), a3, m4]
  have a5 : ((((((d0 * (10000000 : Int32)) + (d1 * (1000000 : Int32))) + (d2 * (100000 : Int32))) + (d3 * (10000 : Int32))) + (d4 * (1000 : Int32))) + (d5 * (100 : Int32))).toInt = (e0 : Int) * 10000000 + (e1 : Int) * 1000000 + (e2 : Int) * 100000 + (e3 : Int) * 10000 + (e4 : Int) * 1000 + (e5 : Int) * 100 := by
    rw [Jvm.Kit.i32_add (by rw [a4, m5]; omega) (by rw [a4, m5]; omega), a4, m5]
  have a6 : (((((((d0 * (10000000 : Int32)) + (d1 * (1000000 : Int32))) + (d2 * (100000 : Int32))) + (d3 * (10000 : Int32))) + (d4 * (1000 : Int32))) + (d5 * (100 : Int32))) + (d6 * (10 : Int32))).toInt = (e0 : Int) * 10000000 + (e1 : Int) * 1000000 + (e2 : Int) * 100000 + (e3 : Int) * 10000 + (e4 : Int) * 1000 + (e5 : Int) * 100 + (e6 : Int) * 10 := by
    rw [Jvm.Kit.i32_add (by rw [a5, m6]; omega) (by rw [a5, m6]; omega), a5, m6]
  have a7 : ((((((((d0 * (10000000 : Int32)) + (d1 * (1000000 : Int32))) + (d2 * (100000 : Int32))) + (d3 * (10000 : Int32))) + (d4 * (1000 : Int32))) + (d5 * (100 : Int32))) + (d6 * (10 : Int32))) + d7).toInt = (e0 : Int) * 10000000 + (e1 : Int) * 1000000 + (e2 : Int) * 100000 + (e3 : Int) * 10000 + (e4 : Int) * 1000 + (e5 : Int) * 100 + (e6 : Int) * 10 + (e7 : Int) := by
    rw [Jvm.Kit.i32_add (by rw [a6, v7]; omega) (by rw [a6, v7]; omega), a6, v7]
  rw [a7]
  omega
theorem own_plain (p1 p2 p3 p4 p5 : Int32) : f0 p1 p2 p3 p4 p5 = 1 := by
  obtain ⟨b0, e0, t0, v0, h0, g0⟩ := own_p0 (own_h p1) p5 (own_hr p1)
  obtain ⟨b1, e1, t1, v1, h1, g1⟩ := own_p1 (own_l p1) p5 (own_lr p1)
  obtain ⟨b2, e2, t2, v2, h2, g2⟩ := own_p2 (own_h p2) p5 (own_hr p2)
  obtain ⟨b3, e3, t3, v3, h3, g3⟩ := own_p3 (own_l p2) p5 (own_lr p2)
  obtain ⟨b4, e4, t4, v4, h4, g4⟩ := own_p4 (own_h p3) p5 (own_hr p3)
  obtain ⟨b5, e5, t5, v5, h5, g5⟩ := own_p5 (own_l p3) p5 (own_lr p3)
  obtain ⟨b6, e6, t6, v6, h6, g6⟩ := own_p6 (own_h p4) p5 (own_hr p4)
  obtain ⟨b7, e7, t7, v7, h7, g7⟩ := own_p7 (own_l p4) p5 (own_lr p4)
  have hw : own_T ((((((((f1 (own_h p1) p5 (0 : Int32)) ||| (f1 (own_l p1) p5 (1 : Int32))) ||| (f1 (own_h p2) p5 (2 : Int32))) ||| (f1 (own_l p2) p5 (3 : Int32))) ||| (f1 (own_h p3) p5 (4 : Int32))) ||| (f1 (own_l p3) p5 (5 : Int32))) ||| (f1 (own_h p4) p5 (6 : Int32))) ||| (f1 (own_l p4) p5 (7 : Int32))) = b0 + 256 * (b1 + 256 * (b2 + 256 * (b3 + 256 * (b4 + 256 * (b5 + 256 * (b6 + 256 * (b7))))))) := by
    simp only [own_Tor, t0, t1, t2, t3, t4, t5, t6, t7]
    exact own_word _ _ _ _ _ _ _ _ g0.1 g1.1 g2.1 g3.1 g4.1 g5.1 g6.1 g7.1
  have hn := own_num ((((((((f1 (own_h p1) p5 (0 : Int32)) ||| (f1 (own_l p1) p5 (1 : Int32))) ||| (f1 (own_h p2) p5 (2 : Int32))) ||| (f1 (own_l p2) p5 (3 : Int32))) ||| (f1 (own_h p3) p5 (4 : Int32))) ||| (f1 (own_l p3) p5 (5 : Int32))) ||| (f1 (own_h p4) p5 (6 : Int32))) ||| (f1 (own_l p4) p5 (7 : Int32))) e0 e1 e2 e3 e4 e5 e6 e7 b0 b1 b2 b3 b4 b5 b6 b7 h0 h1 h2 h3 h4 h5 h6 h7 g0 g1 g2 g3 g4 g5 g6 g7 hw
  unfold f0
  rw [if_pos]
  apply Int32.toInt_inj.mp
  rw [hn]
  exact (own_sum _ _ _ _ _ _ _ _ e0 e1 e2 e3 e4 e5 e6 e7 v0 h0 v1 h1 v2 h2 v3 h3 v4 h4 v5 h5 v6 h6 v7 h7).symm
set_option maxRecDepth 65536 in
set_option maxHeartbeats 40000000 in
theorem comes_1 {Post : Tables → Env → Array Value → State → Outcome → State → Prop} (hpost : ∀ tb e args s v u, (limb_1_1.after args s (.returned v) u = true ∧ limb_1_2.after args s (.returned v) u = true ∧ True) → FrameEnd s (.returned v) u (Jvm.fieldLocs frame_1_writes args s ++ Jvm.arrayLocs frame_1_arrays args s ++ Jvm.staticLocs frame_1_statics s) 0 0 → Post tb e args s (.returned v) u) :
    ArmFor flags0 classFile x code maxLocals ret World_1 tables_1 room_1 Calls_1 rest_1 Pre_1 Post := by
  intro l hfl _ _ p e ha hc hk s m args below hf hA hF happ hP
  obtain ⟨hcalls, hrest, hpre⟩ := hP
  obtain ⟨-, -, -, hnamed, -, -, -, hat⟩ := (Spec.applies_iff hf).mp happ
  obtain ⟨hg, hn⟩ := and_e (Cond.before_iff.mp (show (Jvm.Cond.and given_1 narrow_1).before args s = true from hpre))
  obtain ⟨gc, hg⟩ := and_e hg
  obtain ⟨gi0, hg⟩ := and_e hg
  obtain ⟨gi1, hg⟩ := and_e hg
  obtain ⟨gi2, hg⟩ := and_e hg
  obtain ⟨gi3, hg⟩ := and_e hg
  obtain ⟨w0, w1, w2, w3, w4, rfl⟩ : ∃ w0 w1 w2 w3 w4 : Value, args = #[w0, w1, w2, w3, w4] := by
    have hs : args.size = 5 := by simpa [Cond.value, given_1] using gc
    obtain ⟨L⟩ := args
    match L, hs with
    | [w0, w1, w2, w3, w4], _ => exact ⟨w0, w1, w2, w3, w4, rfl⟩
  have hw := fun d (hd : d ∈ tables_1) => atoms_spec (ws := Jvm.Cond.code x code maxLocals ret :: tables_1) hat d (List.mem_cons_of_mem _ hd)
  obtain ⟨i0, ei0⟩ := is_v gi0
  obtain rfl : w0 = (.int i0) := Option.some.inj ei0
  obtain ⟨i1, ei1⟩ := is_v gi1
  obtain rfl : w1 = (.int i1) := Option.some.inj ei1
  obtain ⟨i2, ei2⟩ := is_v gi2
  obtain rfl : w2 = (.int i2) := Option.some.inj ei2
  obtain ⟨i3, ei3⟩ := is_v gi3
  obtain rfl : w3 = (.int i3) := Option.some.inj ei3
  obtain ⟨i4, ei4⟩ := is_v hg
  obtain rfl : w4 = (.int i4) := Option.some.inj ei4
  obtain ⟨n, o, h1, h2, h3, vr, L, rfl, ⟨hvr, N⟩, hq⟩ := rm0 l s _ hw tables_1 i0 i1 i2 i3 i4 s.heap s.heap.size (Nat.le_refl _)  p e ha hc hk s m _ below hf ((Spec.applies_iff_loose hf).mp happ).1 ⟨rfl, State.Warmed39.refl s, rfl⟩ trivial
  have hpl : f0 i0 i1 i2 i3 i4 = 1 := own_plain i0 i1 i2 i3 i4 
  rw [hpl] at hvr
  subst hvr
  refine ⟨n, _, h1, h2, h3, hpost _ _ _ _ _ _ ⟨Cond.after_iff.mpr rfl, Cond.after_iff.mpr (eq_i res_at (Term.int_eval (1)) rfl), trivial⟩ ⟨hq.1, hq.2.1, (hq.2.2.sift fun y hy => Or.inr (N y hy)).mono (by decide) (by decide)⟩⟩
theorem main_1_1 : Claimed_1_1 := comes_1 fun _ _ _ _ _ _ h hF => ⟨h.1, hF⟩
theorem main_1_2 : Claimed_1_2 := comes_1 fun _ _ _ _ _ _ h hF => ⟨h.2.1, hF⟩

end Jvm.Pilot.@@N@@
namespace Jvm.Pilot.@@N@@
open Jvm Jvm.ClassFile Sem Op Lib Jvm.Free Jvm.Stand Jvm.Pilot.@@N@@.Jvm.D
/-! MADE BY PROGRAM (witnessworld.py) out of the Statement's table words and the real class files: 9 classes; the members and pool entries that the words name. The judged class is class 1, her method 4. -/
namespace start1
open Jvm.ClassFile
def u (s : String) : CpInfo := .utf8 (stringToUtf16 s)
/-- a pool by its gaps: so many unusable entries, then the entry; so many at the end -/
def gap : Nat → List CpInfo → List CpInfo
  | 0, r => r
  | n + 1, r => .unusable :: gap n r
def poolList (es : List (Nat × CpInfo)) (last : Nat) : List CpInfo := es.foldr (fun e r => gap e.1 (e.2 :: r)) (gap last [])
def pool (es : List (Nat × CpInfo)) (last : Nat) : Array CpInfo := ⟨poolList es last⟩
def fileOf (pool : Array CpInfo) (this : Nat) (attrs : Array Attribute := #[]) (ms : Array MethodInfo := #[]) (fl : Nat := 33) (sup : Nat := 0) (ifs : Array Nat := #[]) (fds : Array FieldInfo := #[]) : ClassFile where
  minorVersion := 0
  majorVersion := 65
  constantPool := pool
  accessFlags := fl
  thisClass := this
  superClass := sup
  interfaces := ifs
  fields := fds
  methods := ms
  attributes := attrs
def plain (name : String) (sup : Option ClassId) : Class where
  name := name
  kind := .ordinary
  loader := none
  accessFlags := 33
  super := sup
  interfaces := #[]
  cf := none
  fields := #[]
  methods := #[]
  instanceTypes := #[]
  staticTypes := #[]
  resolved := #[]
  callSites := []
  init := .initialized
  statics := none
  mirror := none

def pool0 : Array CpInfo := pool [(5, u "<init>"), (0, u "()V"), (1, .class_ 10), (1, u "java/lang/Object")] 113

def k0m0 : Method := { name := "<init>", desc := "()V", sig := { parameters := [], returnType := none }, accessFlags := 1, code := none }
/-- java/lang/Object -/
def k0 : Class := { plain "java/lang/Object" none with
  accessFlags := 33
  interfaces := #[]
  cf := some (fileOf pool0 8 #[] #[{ accessFlags := 1, nameIndex := 5, descriptorIndex := 6, attributes := #[] }] 33 0 #[] #[])
  fields := #[]
  methods := #[k0m0]
  instanceTypes := #[]
  staticTypes := #[]
  resolved := Array.replicate 124 none
  statics := none }

def pool1 : Array CpInfo := pool [(2, .class_ 4), (1, u "java/lang/Object"), (0, u "<init>"), (0, u "()V"), (0, .methodref 8 9), (0, .class_ 10), (0, .nameAndType 11 12), (0, u "com/example/loadstone/loadstone/ByteWordsNumberPinLaw"), (0, u "zero"), (0, u "(II)Z"), (0, .long 48), (1, .integer 2147483647), (0, .methodref 8 17), (0, .nameAndType 18 19), (0, u "place"), (0, u "(III)J"), (0, .methodref 8 21), (0, .nameAndType 22 23), (0, u "digit"), (0, u "(III)I"), (0, .integer 10000000), (0, .integer 1000000), (0, .integer 100000), (0, .methodref 28 29), (0, .class_ 30), (0, .nameAndType 31 32), (0, u "com/example/loadstone/loadstone/ByteWords"), (0, u "number"), (0, u "(J)I"), (3, u "law"), (0, u "(IIIII)Z")] 2

def k1m0 : Method := { name := "<init>", desc := "()V", sig := { parameters := [], returnType := none }, accessFlags := 2, code := none }
def k1c1 : Code := { maxStack := 2, maxLocals := 2, code := method_2_code, exceptionTable := #[], attributes := #[] }
def k1m1 : Method := { name := "zero", desc := "(II)Z", sig := { parameters := [.int, .int], returnType := some .boolean }, accessFlags := 10, code := some k1c1 }
def k1c2 : Code := { maxStack := 2, maxLocals := 3, code := method_3_code, exceptionTable := #[], attributes := #[] }
def k1m2 : Method := { name := "digit", desc := "(III)I", sig := { parameters := [.int, .int, .int], returnType := some .int }, accessFlags := 10, code := some k1c2 }
def k1c3 : Code := { maxStack := 4, maxLocals := 5, code := method_4_code, exceptionTable := #[], attributes := #[] }
def k1m3 : Method := { name := "place", desc := "(III)J", sig := { parameters := [.int, .int, .int], returnType := some .long }, accessFlags := 10, code := some k1c3 }
def k1c4 : Code := { maxStack := 5, maxLocals := 28, code := code, exceptionTable := #[], attributes := #[] }
def k1m4 : Method := { name := "law", desc := "(IIIII)Z", sig := { parameters := [.int, .int, .int, .int, .int], returnType := some .boolean }, accessFlags := 9, code := some k1c4 }
/-- com/example/loadstone/loadstone/ByteWordsNumberPinLaw -/
def k1 : Class := { plain "com/example/loadstone/loadstone/ByteWordsNumberPinLaw" (some 0) with
  accessFlags := 49
  interfaces := #[]
  cf := some (fileOf pool1 8 #[] #[{ accessFlags := 2, nameIndex := 5, descriptorIndex := 6, attributes := #[] }, { accessFlags := 10, nameIndex := 11, descriptorIndex := 12, attributes := #[] }, { accessFlags := 10, nameIndex := 22, descriptorIndex := 23, attributes := #[] }, { accessFlags := 10, nameIndex := 18, descriptorIndex := 19, attributes := #[] }, { accessFlags := 9, nameIndex := 36, descriptorIndex := 37, attributes := #[] }] 49 2 #[] #[])
  fields := #[]
  methods := #[k1m0, k1m1, k1m2, k1m3, k1m4]
  instanceTypes := #[]
  staticTypes := #[]
  resolved := Array.replicate 40 none
  statics := none }

def pool2 : Array CpInfo := pool [(3, .class_ 4), (0, u "com/example/loadstone/loadstone/ByteWords"), (1, .class_ 8), (1, u "java/lang/Object"), (0, u "<init>"), (0, u "()V"), (2, u "WORDS"), (0, u "Ljava/lang/invoke/VarHandle;"), (14, .long 1085102592571150095), (3, .long 2561), (1, .long 71777214294589695), (3, .long 6553601), (1, .long 281470681808895), (3, .long 42949672960001), (6, u "(J)I"), (14, u "SIZE"), (0, u "I"), (2, u "HIGH_BITS"), (0, u "J"), (0, u "LOW_BITS"), (0, u "ONES"), (0, u "HIGH_HALVES"), (2, u "LOW_HALVES"), (0, u "PAIR_MASK"), (0, u "FOUR_MASK"), (0, u "GATHER"), (10, u "number")] 5

def k2m0 : Method := { name := "<init>", desc := "()V", sig := { parameters := [], returnType := none }, accessFlags := 2, code := none }
def k2c1 : Code := { maxStack := 4, maxLocals := 8, code := prog_9_method_7_code, exceptionTable := #[], attributes := #[] }
def k2m1 : Method := { name := "number", desc := "(J)I", sig := { parameters := [.long], returnType := some .int }, accessFlags := 8, code := some k2c1 }
/-- com/example/loadstone/loadstone/ByteWords -/
def k2 : Class := { plain "com/example/loadstone/loadstone/ByteWords" (some 0) with
  accessFlags := 48
  interfaces := #[]
  cf := some (fileOf pool2 3 #[] #[{ accessFlags := 2, nameIndex := 9, descriptorIndex := 10, attributes := #[] }, { accessFlags := 8, nameIndex := 92, descriptorIndex := 52, attributes := #[] }] 48 6 #[] #[{ accessFlags := 24, nameIndex := 67, descriptorIndex := 68, attributes := #[] }, { accessFlags := 24, nameIndex := 71, descriptorIndex := 72, attributes := #[] }, { accessFlags := 26, nameIndex := 73, descriptorIndex := 72, attributes := #[] }, { accessFlags := 26, nameIndex := 74, descriptorIndex := 72, attributes := #[] }, { accessFlags := 26, nameIndex := 75, descriptorIndex := 72, attributes := #[] }, { accessFlags := 26, nameIndex := 78, descriptorIndex := 72, attributes := #[] }, { accessFlags := 26, nameIndex := 79, descriptorIndex := 72, attributes := #[] }, { accessFlags := 26, nameIndex := 80, descriptorIndex := 72, attributes := #[] }, { accessFlags := 26, nameIndex := 81, descriptorIndex := 72, attributes := #[] }, { accessFlags := 26, nameIndex := 13, descriptorIndex := 14, attributes := #[] }])
  fields := #[{ name := "SIZE", type := .int, accessFlags := 24, slot := 0, constantValue := 0 }, { name := "HIGH_BITS", type := .long, accessFlags := 24, slot := 1, constantValue := 0 }, { name := "LOW_BITS", type := .long, accessFlags := 26, slot := 2, constantValue := 0 }, { name := "ONES", type := .long, accessFlags := 26, slot := 3, constantValue := 0 }, { name := "HIGH_HALVES", type := .long, accessFlags := 26, slot := 4, constantValue := 0 }, { name := "LOW_HALVES", type := .long, accessFlags := 26, slot := 5, constantValue := 0 }, { name := "PAIR_MASK", type := .long, accessFlags := 26, slot := 6, constantValue := 0 }, { name := "FOUR_MASK", type := .long, accessFlags := 26, slot := 7, constantValue := 0 }, { name := "GATHER", type := .long, accessFlags := 26, slot := 8, constantValue := 0 }, { name := "WORDS", type := (.object "java/lang/invoke/VarHandle"), accessFlags := 26, slot := 9, constantValue := 0 }]
  methods := #[k2m0, k2m1]
  instanceTypes := #[]
  staticTypes := #[.int, .long, .long, .long, .long, .long, .long, .long, .long, (.object "java/lang/invoke/VarHandle")]
  resolved := Array.replicate 98 none
  statics := none }

def pool3 : Array CpInfo := pool [(1, u "java/lang/Cloneable"), (0, .class_ 1), (0, u "java/lang/Object"), (0, .class_ 3)] 3

/-- java/lang/Cloneable -/
def k3 : Class := { plain "java/lang/Cloneable" (some 0) with
  accessFlags := 1537
  interfaces := #[]
  cf := some (fileOf pool3 2 #[] #[] 1537 4 #[] #[])
  fields := #[]
  methods := #[]
  instanceTypes := #[]
  staticTypes := #[]
  resolved := Array.replicate 8 none
  statics := none }

def pool4 : Array CpInfo := pool [(1, u "java/io/Serializable"), (0, .class_ 1), (0, u "java/lang/Object"), (0, .class_ 3)] 3

/-- java/io/Serializable -/
def k4 : Class := { plain "java/io/Serializable" (some 0) with
  accessFlags := 1537
  interfaces := #[]
  cf := some (fileOf pool4 2 #[] #[] 1537 4 #[] #[])
  fields := #[]
  methods := #[]
  instanceTypes := #[]
  staticTypes := #[]
  resolved := Array.replicate 8 none
  statics := none }

/-- the primitive byte -/
def k5 : Class := { plain "byte" none with kind := .primitive 'B', accessFlags := 0x411 }
/-- [B -/
def k6 : Class := { plain "[B" (some 0) with kind := .array 5 .byte, interfaces := #[3, 4], accessFlags := 1041 }

/-- the primitive int -/
def k7 : Class := { plain "int" none with kind := .primitive 'I', accessFlags := 0x411 }
/-- [I -/
def k8 : Class := { plain "[I" (some 0) with kind := .array 7 .int, interfaces := #[3, 4], accessFlags := 1041 }

def heap : Heap := #[]
def classes : Array Class := #[k0, k1, k2, k3, k4, k5, k6, k7, k8]
def interned : List (Array UInt16 × Addr) := []
def slotsUsed : Nat := 0
def theMethod : MethodId := ⟨1, 4⟩
def args0 : Array Value := #[.int 5, .int 7, .int 9, .int 2, .int 1]
def aboutOver (below : List Frame) : State where
  vm := { classes := classes, interned := interned.toArray }
  heap := heap
  slotsUsed := slotsUsed
  threads := #[{ frames := .invoking theMethod args0 :: below }]
def below0 : List Frame := [.native { method := ⟨0, 0⟩, args := #[] }]
def about1 : State := aboutOver below0
def p0 : Program := .bare "" "" ""
def e0 : Env := launch0.env 0 0 0
theorem w_frames : about1.frames = Frame.invoking theMethod args0 :: below0 := rfl
set_option maxRecDepth 65536 in
theorem w_args : argsFit about1.vm theMethod args0 = true := by decide +kernel
set_option maxRecDepth 65536 in
theorem w_heap : heapFits about1 = true := by decide +kernel
set_option maxRecDepth 65536 in
theorem w_runnable : about1.curStatus? = some .runnable := by decide +kernel
set_option maxRecDepth 65536 in
theorem w_alone : about1.alone = true := by decide +kernel
set_option maxRecDepth 65536 in
theorem w_named : about1.methodNamed? x = some theMethod := by decide +kernel
set_option maxRecDepth 65536 in
theorem w_hears : about1.hears theMethod below0 = true := by decide +kernel
set_option maxRecDepth 65536 in
theorem w_ripe : about1.ripe theMethod args0 below0 = true := by decide +kernel
theorem w_running : about1.status = .running := rfl
set_option maxRecDepth 65536 in
theorem w_room : about1.hasRoom e0.platform room_1 = true :=
  launch0.hasRoom_least _ room_1 (by decide +kernel) (by decide +kernel) (by decide +kernel) (by decide +kernel) (by decide +kernel) (by decide +kernel)
theorem allAtoms_all (ts : List Jvm.Cond) (a : Array Jvm.Value) (st : Jvm.State) : (allAtoms ts).before a st = ts.all (fun c => c.before a st) := by
  induction ts with
  | nil => rfl
  | cons c t ih =>
    show (Jvm.Cond.and c (allAtoms t)).before a st = _
    rw [Jvm.Cond.before_and, ih, List.all_cons]
def words1 : List Jvm.Cond := Jvm.Cond.code x code maxLocals ret :: tables_1
/-- a 'code' word, met by the world's own term for the bytes: nothing is compared byte by byte -/
theorem code_word {y : MethodName} {bytes : ByteArray} {mx : Nat} {rt : Option FieldType} {a : Array Value} {s : State} {m : MethodId} {meth : Method} {c : Code} (h1 : s.methodNamed? y = some m) (h2 : s.vm.method? m = some meth) (h3 : meth.code = some c) (h4 : c.code = bytes)
    (h5 : (c.maxLocals == mx && c.exceptionTable.isEmpty && decide (c.maxStack ≤ mostOperands) && decide (meth.sig.returnType = rt) && !meth.locks && decide (parseMethodDescriptor y.desc = some meth.sig)) = true) : (Jvm.Cond.code y bytes mx rt).before a s = true := by
  simp only [Bool.and_eq_true, beq_iff_eq, Bool.not_eq_true', decide_eq_true_eq] at h5
  obtain ⟨⟨⟨⟨⟨g1, g2⟩, g3⟩, g4⟩, g5⟩, g6⟩ := h5
  simp [Cond.before, Cond.holds, Cond.value, h1, h2, h3, h4, g1, g2, g3, g4, g5, g6]
def isCode : Jvm.Cond → Bool
  | .code _ _ _ _ => true
  | _ => false
theorem all_split {L : List Jvm.Cond} {P : Jvm.Cond → Bool} (h1 : L.all (fun c => isCode c || P c) = true) (h2 : ∀ c ∈ L.filter isCode, P c = true) : L.all P = true := by
  refine List.all_eq_true.mpr fun c hc => ?_
  have h := List.all_eq_true.mp h1 c hc
  rcases Bool.eq_false_or_eq_true (isCode c) with hi | hi
  · exact h2 c (List.mem_filter.mpr ⟨hc, hi⟩)
  · simpa [hi] using h
set_option maxRecDepth 65536 in
theorem w_c0 : (Jvm.Cond.code x code maxLocals ret).before args0 about1 = true := code_word (m := ⟨1, 4⟩) (meth := k1m4) (c := k1c4) (by decide +kernel) rfl rfl rfl (by decide +kernel)
set_option maxRecDepth 65536 in
theorem w_c1 : (Jvm.Cond.code ({ cls := "com/example/loadstone/loadstone/ByteWordsNumberPinLaw", name := "place", desc := "(III)J" } : Jvm.MethodName) method_4_code (5 : Nat) (Option.some Jvm.ClassFile.FieldType.long)).before args0 about1 = true := code_word (m := ⟨1, 3⟩) (meth := k1m3) (c := k1c3) (by decide +kernel) rfl rfl rfl (by decide +kernel)
set_option maxRecDepth 65536 in
theorem w_c2 : (Jvm.Cond.code ({ cls := "com/example/loadstone/loadstone/ByteWordsNumberPinLaw", name := "zero", desc := "(II)Z" } : Jvm.MethodName) method_2_code (2 : Nat) (Option.some Jvm.ClassFile.FieldType.boolean)).before args0 about1 = true := code_word (m := ⟨1, 1⟩) (meth := k1m1) (c := k1c1) (by decide +kernel) rfl rfl rfl (by decide +kernel)
set_option maxRecDepth 65536 in
theorem w_c3 : (Jvm.Cond.code ({ cls := "com/example/loadstone/loadstone/ByteWordsNumberPinLaw", name := "digit", desc := "(III)I" } : Jvm.MethodName) method_3_code (3 : Nat) (Option.some Jvm.ClassFile.FieldType.int)).before args0 about1 = true := code_word (m := ⟨1, 2⟩) (meth := k1m2) (c := k1c2) (by decide +kernel) rfl rfl rfl (by decide +kernel)
set_option maxRecDepth 65536 in
theorem w_c4 : (Jvm.Cond.code ({ cls := "com/example/loadstone/loadstone/ByteWords", name := "number", desc := "(J)I" } : Jvm.MethodName) prog_9_method_7_code (8 : Nat) (Option.some Jvm.ClassFile.FieldType.int)).before args0 about1 = true := code_word (m := ⟨2, 1⟩) (meth := k2m1) (c := k2c1) (by decide +kernel) rfl rfl rfl (by decide +kernel)
def codes1 : List Jvm.Cond := [Jvm.Cond.code x code maxLocals ret, Jvm.Cond.code ({ cls := "com/example/loadstone/loadstone/ByteWordsNumberPinLaw", name := "place", desc := "(III)J" } : Jvm.MethodName) method_4_code (5 : Nat) (Option.some Jvm.ClassFile.FieldType.long), Jvm.Cond.code ({ cls := "com/example/loadstone/loadstone/ByteWordsNumberPinLaw", name := "zero", desc := "(II)Z" } : Jvm.MethodName) method_2_code (2 : Nat) (Option.some Jvm.ClassFile.FieldType.boolean), Jvm.Cond.code ({ cls := "com/example/loadstone/loadstone/ByteWordsNumberPinLaw", name := "digit", desc := "(III)I" } : Jvm.MethodName) method_3_code (3 : Nat) (Option.some Jvm.ClassFile.FieldType.int), Jvm.Cond.code ({ cls := "com/example/loadstone/loadstone/ByteWords", name := "number", desc := "(J)I" } : Jvm.MethodName) prog_9_method_7_code (8 : Nat) (Option.some Jvm.ClassFile.FieldType.int)]
set_option maxRecDepth 65536 in
theorem codes_eq : words1.filter isCode = codes1 := rfl
theorem w_codes : ∀ c ∈ words1.filter isCode, c.before args0 about1 = true := by
  rw [codes_eq]
  intro c hc
  simp only [codes1, List.mem_cons, List.not_mem_nil, or_false] at hc
  rcases hc with rfl | rfl | rfl | rfl | rfl
  · exact w_c0
  · exact w_c1
  · exact w_c2
  · exact w_c3
  · exact w_c4
set_option maxRecDepth 65536 in
theorem w_t1 : (words1.take 24).all (fun c => isCode c || c.before args0 about1) = true := by decide +kernel
set_option maxRecDepth 65536 in
theorem w_t2 : (words1.drop 24).all (fun c => isCode c || c.before args0 about1) = true := by decide +kernel
theorem w_tables : (allAtoms (Jvm.Cond.code x code maxLocals ret :: tables_1)).before args0 about1 = true := by
  rw [allAtoms_all]
  show words1.all (fun c => c.before args0 about1) = true
  refine all_split ?_ w_codes
  rw [← List.take_append_drop 24 words1, List.all_append, w_t1, w_t2]
  rfl
set_option maxRecDepth 65536 in
theorem w_case : (Jvm.Cond.and given_1 narrow_1).before args0 about1 = true := by decide +kernel
theorem w_applies : (headSpec (Jvm.Cond.code x code maxLocals ret :: tables_1) room_1).applies x e0.platform about1 = true :=
  (Spec.applies_iff w_frames).mpr ⟨w_running, w_runnable, w_alone, w_named, w_hears, w_ripe, w_room, w_tables⟩
theorem atStart : AtStart classFile x code maxLocals ret World_1 tables_1 room_1 Calls_1 rest_1 Pre_1 launch0 p0 e0 about1 theMethod args0 below0 :=
  ⟨lists_1, trivial, launch0.admits_env _ _ _, launch0.least_env, fairChoices_fair.cas, fairChoices_fair.clock, w_frames, w_args, w_heap, w_applies, trivial, trivial, w_case⟩
end start1
theorem witness_1 : WitnessClaimed_1 := ⟨start1.p0, start1.e0, start1.about1, start1.theMethod, start1.args0, start1.below0, start1.atStart⟩
end Jvm.Pilot.@@N@@
