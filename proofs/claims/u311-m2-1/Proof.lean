import JvmDerived
import JvmDerived.Pilot.@@N@@Statement
import JvmDerived.Pilot.@@N@@Code
set_option linter.unusedVariables false
set_option linter.unusedSimpArgs false
@@BLOCK:NumsL.lean.txt@@
namespace Jvm.RoadKit
open Sem ClassFile Op Lib Jvm.Stand Jvm.Free Jvm.LawKit
section New
variable {p : Program} {l : Launch} {e : Env} {R : Room} {s : State} {m : MethodId} {args : Array Value} {below : List Frame} {meth : Method} {c : Code} {T : State} {locs : List Loc} {cells slots : Nat}
theorem retI (X : Stand p l e R s m args below meth c T locs cells slots) (hx : p.tables.exec = Jvm.exec) {pc : Nat} {Ls : Array Slot} {z : Int32} {rest : List Value} (hret : meth.sig.returnType = some .int) (hd : decode c.code pc = .ok (.ireturn, 1)) {fs : List Frame}
    (hl : ∀ (f : JFrame) (acts : List Action), f.method = m → f.locked = none → f.entered = [] → (doReturn e (T.setTop f) acts (some (.int z))).1 = T.setFrames fs) : Steps p.tables e below (T.setTop (mkF m pc Ls (.int z :: rest))) (T.setFrames fs) := by
  have hm' : T.vm.method? m = some meth := X.method'
  have hn : narrow .int (.int z) = .int z := rfl
  show Steps p.tables e below (T.setTop { method := m, pc := pc, locals := Ls, stack := _ :: rest, locked := none }) _
  jvm_step X.here [X.here.top, hx, hd, hm', hret, hn]
  first | (intro acts; rw [hl _ acts rfl rfl rfl]) | rw [hl _ _ rfl rfl rfl]
  exact Steps.refl _
end New
end Jvm.RoadKit
namespace Jvm.Pilot.@@N@@
open Jvm Jvm.ClassFile Sem Op Lib Jvm.Free Jvm.Stand Jvm.LawKit Jvm.RoadKit Bundle Jvm.Pilot.@@N@@.Jvm.D
theorem own_nz_J {x : Int64} (h : (0 : Int64) < x) : ¬ (x = (0 : Int64)) := by rintro rfl; exact absurd h (by decide)
theorem own_nz_I {x : Int32} (h : (0 : Int32) < x) : ¬ (x = (0 : Int32)) := by rintro rfl; exact absurd h (by decide)
theorem own_fld {s : State} {args : Array Value} {tt : Term} {a : Addr} {C n d : String} {k : Int32} (ev : tt.eval args s none [] s = some (.ref a)) (h : (Jvm.Cond.eq (.field tt C n d) (.int k)).value args s none s [] = some true) : Fld s s.heap a C n d (.int k) := by
  obtain ⟨u, v, hu, hv, k1, k2⟩ := cmp_v (Or.inl h)
  have hv' : v = .int k := (Option.some.inj (hv.symm.trans (Term.int_eval k)))
  subst hv'
  obtain ⟨z, rfl⟩ := k2
  have hz := gotT (Cond.eq_ints hu hv) h
  subst hz
  exact Fld.start (by rw [← fld_at ev]; exact hu)
def own_at (vs : List Int32) (j : Int32) : Int32 := vs.getD j.toNatClampNeg 0
def own_atL (vs : List Int64) (j : Int32) : Int64 := vs.getD j.toNatClampNeg 0
theorem own_getD (vs : List Int32) (j : Int32) : (vs.map Value.int).getD j.toNatClampNeg (.int (0 : Int32)) = .int (own_at vs j) := by
  unfold own_at
  generalize j.toNatClampNeg = k
  induction vs generalizing k with
  | nil => rfl
  | cons a t ih => cases k with
    | zero => rfl
    | succ k => simpa using ih k
theorem own_getDL (vs : List Int64) (j : Int32) : (vs.map Value.long).getD j.toNatClampNeg (.long (0 : Int64)) = .long (own_atL vs j) := by
  unfold own_atL
  generalize j.toNatClampNeg = k
  induction vs generalizing k with
  | nil => rfl
  | cons a t ih => cases k with
    | zero => rfl
    | succ k => simpa using ih k
theorem own_m7 (x : Int32) : ¬ ((x &&& (127 : Int32)) < (0 : Int32)) := by
  have h := c_mask x 127 7 (by decide) (by decide)
  rw [Int32.lt_iff_toInt_lt, show (0 : Int32).toInt = 0 from rfl]
  omega
theorem own_m31 (x : Int32) : ¬ ((x &&& (2147483647 : Int32)) < (0 : Int32)) := by
  have h := c_mask x 2147483647 31 (by decide) (by decide)
  rw [Int32.lt_iff_toInt_lt, show (0 : Int32).toInt = 0 from rfl]
  omega
theorem own_el {s : State} {args : Array Value} {tt : Term} {a : Addr} {cl : Cell} {j v : Int32} {ti : Term} (ev : ∀ idx, tt.eval args s none idx s = some (.ref a)) (hA : s.arrayAt? a = some cl) (hj : ¬ j < 0) (idx : List Nat) (hi : ti.eval args s none idx s = some (.int j)) (h : (Jvm.Cond.eq (.elem tt ti) (.int v)).value args s none s idx = some true) : atv cl j = v := by
  obtain ⟨u, w, hu, hw, k1, k2⟩ := cmp_v (Or.inl h)
  have hw' : w = .int v := (Option.some.inj (hw.symm.trans (Term.int_eval v)))
  subst hw'
  obtain ⟨z, rfl⟩ := k2
  have hz := gotT (Cond.eq_ints hu hw) h
  subst hz
  exact atv_of ((elem_f (ev idx) hi hA hj).symm.trans hu)
theorem own_or {s : State} {args : Array Value} {idx : List Nat} {c d : Jvm.Cond} (h : (Jvm.Cond.or c d).value args s none s idx = some true) : c.value args s none s idx = some true ∨ d.value args s none s idx = some true := by
  simp only [Cond.value] at h
  split at h
  · exact Or.inr h
  · exact Or.inl h
theorem own_ix {s : State} {args : Array Value} (i : Nat) : (Term.index 0).eval args s none [i] s = some (.int i.toInt32) := rfl
theorem own_rg {s : State} {args : Array Value} {tt : Term} {a : Addr} {cl : Cell} {lo hi : Nat} {v : Int32} (ev : ∀ idx, tt.eval args s none idx s = some (.ref a)) (hA : s.arrayAt? a = some cl) (h : (Jvm.Cond.all tt (Jvm.Cond.or (Jvm.Cond.lt (Term.index 0) (Term.int lo.toInt32)) (Jvm.Cond.or (Jvm.Cond.le (Term.int hi.toInt32) (Term.index 0)) (Jvm.Cond.eq (Term.elem tt (Term.index 0)) (Term.int v))))).value args s none s [] = some true) (hs : cl.slots.size = 128) (hlo : lo < 128) (hhi : hi ≤ 128) : ∀ i : Nat, lo ≤ i → i < hi → atv cl i.toInt32 = v := by
  intro i h1 h2
  have g := Cond.all_elim (ev []) hA h i (by omega)
  have e1 := len_toInt (n := i) (by omega)
  have e2 := len_toInt (n := lo) (by omega)
  have e3 := len_toInt (n := hi) (by omega)
  rcases own_or g with g | g
  · have := gotT (Cond.lt_ints (own_ix i) (Term.int_eval _)) g
    rw [Int32.lt_iff_toInt_lt] at this
    omega
  · rcases own_or g with g | g
    · have := gotT (Cond.le_ints (Term.int_eval _) (own_ix i)) g
      rw [Int32.le_iff_toInt_le] at this
      omega
    · exact own_el ev hA (by rw [Int32.lt_iff_toInt_lt, show (0 : Int32).toInt = 0 from rfl]; omega) [i] (own_ix i) g
theorem own_rg0 {s : State} {args : Array Value} {tt : Term} {a : Addr} {cl : Cell} {hi : Nat} {v : Int32} (ev : ∀ idx, tt.eval args s none idx s = some (.ref a)) (hA : s.arrayAt? a = some cl) (h : (Jvm.Cond.all tt (Jvm.Cond.or (Jvm.Cond.le (Term.int hi.toInt32) (Term.index 0)) (Jvm.Cond.eq (Term.elem tt (Term.index 0)) (Term.int v)))).value args s none s [] = some true) (hs : cl.slots.size = 128) (hhi : hi ≤ 128) : ∀ i : Nat, i < hi → atv cl i.toInt32 = v := by
  intro i h2
  have g := Cond.all_elim (ev []) hA h i (by omega)
  have e1 := len_toInt (n := i) (by omega)
  have e3 := len_toInt (n := hi) (by omega)
  rcases own_or g with g | g
  · have := gotT (Cond.le_ints (Term.int_eval _) (own_ix i)) g
    rw [Int32.le_iff_toInt_le] at this
    omega
  · exact own_el ev hA (by rw [Int32.lt_iff_toInt_lt, show (0 : Int32).toInt = 0 from rfl]; omega) [i] (own_ix i) g
theorem d1_0 : decode prog_18_method_4_code 0 = .ok (.iload_n 0, 1) := by decide +kernel
theorem d1_1 : decode prog_18_method_4_code 1 = .ok (.getstatic 28, 3) := by decide +kernel
theorem d1_4 : decode prog_18_method_4_code 4 = .ok (.arraylength, 1) := by decide +kernel
theorem d1_5 : decode prog_18_method_4_code 5 = .ok (.if_icmp .ge 15, 3) := by decide +kernel
theorem d1_8 : decode prog_18_method_4_code 8 = .ok (.getstatic 28, 3) := by decide +kernel
theorem d1_11 : decode prog_18_method_4_code 11 = .ok (.iload_n 0, 1) := by decide +kernel
theorem d1_12 : decode prog_18_method_4_code 12 = .ok (.baload, 1) := by decide +kernel
theorem d1_13 : decode prog_18_method_4_code 13 = .ok (.ifCond .eq 7, 3) := by decide +kernel
theorem d1_16 : decode prog_18_method_4_code 16 = .ok (.iconst 1, 1) := by decide +kernel
theorem d1_17 : decode prog_18_method_4_code 17 = .ok (.goto 4, 3) := by decide +kernel
theorem d1_20 : decode prog_18_method_4_code 20 = .ok (.iconst 0, 1) := by decide +kernel
theorem d1_21 : decode prog_18_method_4_code 21 = .ok (.ireturn, 1) := by decide +kernel
theorem pn_1 : plainName "com/example/exception_mapper/exceptionmapper/HttpSyntax" = true := by first | (simp [plainName, overriddenIn]; done) | decide +kernel
theorem ef_1 (m : MethodId) (x0 : Int32) : entryFrame m #[(.int x0)] 1 = mkF m 0 #[.val (.int x0)] [] := by first | (simp [entryFrame, mkF, argsToLocals, Value.category]; done) | rfl
def f1 (p1 : Int32) (cl_w_IN_TOKEN : Cell) : Int32 := (if p1 < (128 : Int32) then (if (atv cl_w_IN_TOKEN p1) = (0 : Int32) then (0 : Int32) else (1 : Int32)) else (0 : Int32))
def Q1 (Z : State) (p1 : Int32) (w_IN_TOKEN : Addr) (cl_w_IN_TOKEN : Cell) (h0 : Heap) (n0 : Nat) (v : Option Value) (h : Heap) (L : List Loc) : Prop := v = some (.int (f1 p1 cl_w_IN_TOKEN)) ∧ Fr n0 L ∧ h = h0
set_option maxRecDepth 65536 in
set_option maxHeartbeats 40000000 in
theorem rm1 (l : Launch) (Z : State) (a0 : Array Value) (hw : ∀ d ∈ tables_1, d.before a0 Z = true) (ws : List Jvm.Cond) (p1 : Int32) (w_IN_TOKEN : Addr) (cl_w_IN_TOKEN : Cell) (h0 : Heap) (n0 : Nat) (Z0 : n0 ≤ h0.size) (hnn : ¬ (p1 < (0 : Int32))) (S_IN_TOKEN : Sta Z h0 "com/example/exception_mapper/exceptionmapper/HttpSyntax" "IN_TOKEN" "[Z" (.ref w_IN_TOKEN)) (Tb_w_IN_TOKEN : Tab Z h0 w_IN_TOKEN cl_w_IN_TOKEN .boolean (128 : Int32)) :
    MetFree l (⟨"com/example/exception_mapper/exceptionmapper/HttpSyntax", "inToken", "(I)Z"⟩ : MethodName) (head1 (Jvm.Cond.code (⟨"com/example/exception_mapper/exceptionmapper/HttpSyntax", "inToken", "(I)Z"⟩ : MethodName) prog_18_method_4_code 1 (some .boolean) :: ws) ({ frames := 0, cells := 0, slots := 0, locals := 0 } : Room)) (fun a U => a = #[(.int p1)] ∧ Z.Warmed39 U.vm ∧ U.heap = h0) (fun _ _ _ _ _ => True) (fun _ U o U' => ∃ v L, o = .returned v ∧ Q1 Z p1 w_IN_TOKEN cl_w_IN_TOKEN h0 n0 v U'.heap L ∧ FrameEnd U o U' L ({ frames := 0, cells := 0, slots := 0, locals := 0 } : Room).cells ({ frames := 0, cells := 0, slots := 0, locals := 0 } : Room).slots) := by
  refine MetFree.of_bodySF (plainFor_of_name pn_1) hisR ?_
  intro p e s m args below meth c s₁ Bd hml0 hP hK
  obtain ⟨rfl, hZ, hh⟩ := hP
  have hx := Bd.exec
  have hby := Bd.bytes
  have hml : c.maxLocals = 1 := hml0
  have hown : s.vm.findClass "com/example/exception_mapper/exceptionmapper/HttpSyntax" = some m.cls := findClass_of_methodNamed Bd.named
  have hnm := (name_of_methodNamed Bd.named Bd.method).1
  have X0 : Stand p l e ({ frames := 0, cells := 0, slots := 0, locals := 0 } : Room) s m #[(.int p1)] below meth c s₁ [] 0 0 := Stand.of_body Bd
  have e0 : s₁.heap = h0 := by rw [← hh, Bd.state]; rfl
  have N0 := Fr.nil n0
  have pre0 : ∀ t, Steps p.tables e below (s₁.setTop (mkF m 0 #[.val (.int p1)] [])) t → Steps p.tables e below (s₁.setTop (entryFrame m #[(.int p1)] 1)) t := fun t k => castTop (ef_1 m p1) k
  obtain ⟨T2, X2, e2, st2⟩ := getS2 X0 hx hZ hown (host := "") (Or.inl (hw _ (List.mem_of_getElem? (i := 4) rfl))) Via.refl e0 S_IN_TOKEN (g := (mkF m 1 #[.val (.int p1)] [(.int p1)])) rfl (hb hby d1_1)
  have pre3 : ∀ t, Steps p.tables e below (T2.setTop (mkF m 5 #[.val (.int p1)] [(.int (128 : Int32)), (.int p1)])) t → Steps p.tables e below (s₁.setTop (entryFrame m #[(.int p1)] 1)) t := fun t kt => by
    refine pre0 _ ?_
    show Steps p.tables e below (s₁.setTop (mkF m 0 #[.val (.int p1)] [])) _
    refine XS.iloadN X0.here hx rfl (hb hby d1_0) rfl ?_
    show Steps p.tables e below (s₁.setTop (mkF m 1 _ [(.int p1)])) _
    refine st2 _ ?_
    show Steps p.tables e below (T2.setTop (mkF m 4 _ [(.ref w_IN_TOKEN), (.int p1)])) _
    refine X2.arraylength hx (by rw [e2]; exact Tb_w_IN_TOKEN.1.1) (State.isArrayOf_alike hZ.alike Tb_w_IN_TOKEN.1.2.1) (g := (mkF m 4 #[.val (.int p1)] [(.ref w_IN_TOKEN), (.int p1)])) rfl rfl (hb hby d1_4) _ ?_
    rw [len_of Tb_w_IN_TOKEN.2.1 Tb_w_IN_TOKEN.2.2.1]
    exact kt
  by_cases hc4 : p1 < (128 : Int32)
  · skip
    obtain ⟨T5, X5, e5, st5⟩ := getS2 X2 hx hZ hown (host := "") (Or.inl (hw _ (List.mem_of_getElem? (i := 4) rfl))) Via.refl e2 S_IN_TOKEN (g := (mkF m 8 #[.val (.int p1)] [])) rfl (hb hby d1_8)
    have hin6 : ¬ (p1 < 0 ∨ cl_w_IN_TOKEN.slots.size ≤ (p1).toNatClampNeg) := inb_of Tb_w_IN_TOKEN.2.1 ⟨hnn, (by assumption)⟩
    have pre7 : ∀ t, Steps p.tables e below (T5.setTop (mkF m 13 #[.val (.int p1)] [(.int (atv cl_w_IN_TOKEN p1))])) t → Steps p.tables e below (s₁.setTop (entryFrame m #[(.int p1)] 1)) t := fun t kt => by
      refine pre3 _ ?_
      show Steps p.tables e below (T2.setTop (mkF m 5 #[.val (.int p1)] [(.int (128 : Int32)), (.int p1)])) _
      refine XS.icmpNo X2.here hx rfl (hb hby d1_5) rfl (tlt hc4).2.1 ?_
      show Steps p.tables e below (T2.setTop (mkF m 8 _ [])) _
      refine st5 _ ?_
      show Steps p.tables e below (T5.setTop (mkF m 11 _ [(.ref w_IN_TOKEN)])) _
      refine XS.iloadN X5.here hx rfl (hb hby d1_11) rfl ?_
      show Steps p.tables e below (T5.setTop (mkF m 12 _ [(.int p1), (.ref w_IN_TOKEN)])) _
      refine X5.baloadBooleans hx (j := p1) (v := (.int (atv cl_w_IN_TOKEN p1))) (by rw [e5]; exact Tb_w_IN_TOKEN.1.1) (State.isArrayOf_alike hZ.alike Tb_w_IN_TOKEN.1.2.1) Tb_w_IN_TOKEN.1.2.2 hin6 (Tb_w_IN_TOKEN.2.2.2 _ hin6) (g := (mkF m 12 #[.val (.int p1)] [(.int p1), (.ref w_IN_TOKEN)])) rfl rfl (hb hby d1_12) _ ?_
      exact kt
    by_cases hc8 : (atv cl_w_IN_TOKEN p1) = (0 : Int32)
    · skip
      obtain ⟨fs, hr, hrun, hended, hW, hsame⟩ := X5.leave (v := some (.int (0 : Int32))) (fun h => by rw [Bd.returns] at h; cases h) (by first | exact BodyLoose.notSynchronized Bd | exact Body.notSynchronized Bd)
      refine ⟨_, _, pre7 _ ?_, hrun, hended, _, _, rfl, ?_, ⟨_, rfl⟩, hW, hsame.mono (by decide) (by decide)⟩
      · show Steps p.tables e below (T5.setTop (mkF m 13 #[.val (.int p1)] [(.int (atv cl_w_IN_TOKEN p1))])) _
        refine XS.ifYes X5.here hx rfl (pc0 := 13) (pc' := 20) rfl (hb hby d1_13) rfl ((if0 _ _).trans (teq hc8).1) (by decide) (by decide) ?_
        show Steps p.tables e below (T5.setTop (mkF m 20 _ [])) _
        refine XS.iconst X5.here hx rfl (hb hby d1_20) ?_
        show Steps p.tables e below (T5.setTop (mkF m 21 #[.val (.int p1)] [(.int (0 : Int32))])) _
        exact retN X5 hx (t := .boolean) Bd.returns (by simp) (hb hby d1_21) hr
      · show Q1 Z p1 w_IN_TOKEN cl_w_IN_TOKEN h0 n0 _ T5.heap _
        rw [e5]
        exact ⟨congrArg (fun z => some (Value.int z)) (by rw [f1, if_pos hc4, if_pos hc8] : f1 p1 cl_w_IN_TOKEN = (0 : Int32)).symm, N0, rfl⟩
    · skip
      obtain ⟨fs, hr, hrun, hended, hW, hsame⟩ := X5.leave (v := some (.int (1 : Int32))) (fun h => by rw [Bd.returns] at h; cases h) (by first | exact BodyLoose.notSynchronized Bd | exact Body.notSynchronized Bd)
      refine ⟨_, _, pre7 _ ?_, hrun, hended, _, _, rfl, ?_, ⟨_, rfl⟩, hW, hsame.mono (by decide) (by decide)⟩
      · show Steps p.tables e below (T5.setTop (mkF m 13 #[.val (.int p1)] [(.int (atv cl_w_IN_TOKEN p1))])) _
        refine XS.ifNo X5.here hx rfl (hb hby d1_13) rfl ((if0 _ _).trans (feq hc8).1) ?_
        show Steps p.tables e below (T5.setTop (mkF m 16 _ [])) _
        refine XS.iconst X5.here hx rfl (hb hby d1_16) ?_
        show Steps p.tables e below (T5.setTop (mkF m 17 _ [(.int (1 : Int32))])) _
        refine XS.goto X5.here hx rfl (pc0 := 17) (pc' := 21) rfl (hb hby d1_17) (by decide) (by decide) ?_
        show Steps p.tables e below (T5.setTop (mkF m 21 #[.val (.int p1)] [(.int (1 : Int32))])) _
        exact retN X5 hx (t := .boolean) Bd.returns (by simp) (hb hby d1_21) hr
      · show Q1 Z p1 w_IN_TOKEN cl_w_IN_TOKEN h0 n0 _ T5.heap _
        rw [e5]
        exact ⟨congrArg (fun z => some (Value.int z)) (by rw [f1, if_pos hc4, if_neg hc8] : f1 p1 cl_w_IN_TOKEN = (1 : Int32)).symm, N0, rfl⟩
  · skip
    obtain ⟨fs, hr, hrun, hended, hW, hsame⟩ := X2.leave (v := some (.int (0 : Int32))) (fun h => by rw [Bd.returns] at h; cases h) (by first | exact BodyLoose.notSynchronized Bd | exact Body.notSynchronized Bd)
    refine ⟨_, _, pre3 _ ?_, hrun, hended, _, _, rfl, ?_, ⟨_, rfl⟩, hW, hsame.mono (by decide) (by decide)⟩
    · show Steps p.tables e below (T2.setTop (mkF m 5 #[.val (.int p1)] [(.int (128 : Int32)), (.int p1)])) _
      refine XS.icmpYes X2.here hx rfl (pc0 := 5) (pc' := 20) rfl (hb hby d1_5) rfl (flt hc4).2.1 (by decide) (by decide) ?_
      show Steps p.tables e below (T2.setTop (mkF m 20 _ [])) _
      refine XS.iconst X2.here hx rfl (hb hby d1_20) ?_
      show Steps p.tables e below (T2.setTop (mkF m 21 #[.val (.int p1)] [(.int (0 : Int32))])) _
      exact retN X2 hx (t := .boolean) Bd.returns (by simp) (hb hby d1_21) hr
    · show Q1 Z p1 w_IN_TOKEN cl_w_IN_TOKEN h0 n0 _ T2.heap _
      rw [e2]
      exact ⟨congrArg (fun z => some (Value.int z)) (by rw [f1, if_neg hc4] : f1 p1 cl_w_IN_TOKEN = (0 : Int32)).symm, N0, rfl⟩
theorem d2_0 : decode method_3_code 0 = .ok (.iload_n 0, 1) := by decide +kernel
theorem d2_1 : decode method_3_code 1 = .ok (.bipush 97, 2) := by decide +kernel
theorem d2_3 : decode method_3_code 3 = .ok (.if_icmp .lt 11, 3) := by decide +kernel
theorem d2_6 : decode method_3_code 6 = .ok (.iload_n 0, 1) := by decide +kernel
theorem d2_7 : decode method_3_code 7 = .ok (.bipush 122, 2) := by decide +kernel
theorem d2_9 : decode method_3_code 9 = .ok (.if_icmp .gt 5, 3) := by decide +kernel
theorem d2_12 : decode method_3_code 12 = .ok (.iconst 1, 1) := by decide +kernel
theorem d2_13 : decode method_3_code 13 = .ok (.ireturn, 1) := by decide +kernel
theorem d2_14 : decode method_3_code 14 = .ok (.iload_n 0, 1) := by decide +kernel
theorem d2_15 : decode method_3_code 15 = .ok (.bipush 65, 2) := by decide +kernel
theorem d2_17 : decode method_3_code 17 = .ok (.if_icmp .lt 11, 3) := by decide +kernel
theorem d2_20 : decode method_3_code 20 = .ok (.iload_n 0, 1) := by decide +kernel
theorem d2_21 : decode method_3_code 21 = .ok (.bipush 90, 2) := by decide +kernel
theorem d2_23 : decode method_3_code 23 = .ok (.if_icmp .gt 5, 3) := by decide +kernel
theorem d2_26 : decode method_3_code 26 = .ok (.iconst 1, 1) := by decide +kernel
theorem d2_27 : decode method_3_code 27 = .ok (.ireturn, 1) := by decide +kernel
theorem d2_28 : decode method_3_code 28 = .ok (.iload_n 0, 1) := by decide +kernel
theorem d2_29 : decode method_3_code 29 = .ok (.bipush 48, 2) := by decide +kernel
theorem d2_31 : decode method_3_code 31 = .ok (.if_icmp .lt 11, 3) := by decide +kernel
theorem d2_34 : decode method_3_code 34 = .ok (.iload_n 0, 1) := by decide +kernel
theorem d2_35 : decode method_3_code 35 = .ok (.bipush 57, 2) := by decide +kernel
theorem d2_37 : decode method_3_code 37 = .ok (.if_icmp .gt 5, 3) := by decide +kernel
theorem d2_40 : decode method_3_code 40 = .ok (.iconst 1, 1) := by decide +kernel
theorem d2_41 : decode method_3_code 41 = .ok (.ireturn, 1) := by decide +kernel
theorem d2_42 : decode method_3_code 42 = .ok (.iload_n 0, 1) := by decide +kernel
theorem d2_43 : decode method_3_code 43 = .ok (.bipush 33, 2) := by decide +kernel
theorem d2_45 : decode method_3_code 45 = .ok (.if_icmp .eq 87, 3) := by decide +kernel
theorem d2_48 : decode method_3_code 48 = .ok (.iload_n 0, 1) := by decide +kernel
theorem d2_49 : decode method_3_code 49 = .ok (.bipush 35, 2) := by decide +kernel
theorem d2_51 : decode method_3_code 51 = .ok (.if_icmp .eq 81, 3) := by decide +kernel
theorem d2_54 : decode method_3_code 54 = .ok (.iload_n 0, 1) := by decide +kernel
theorem d2_55 : decode method_3_code 55 = .ok (.bipush 36, 2) := by decide +kernel
theorem d2_57 : decode method_3_code 57 = .ok (.if_icmp .eq 75, 3) := by decide +kernel
theorem d2_60 : decode method_3_code 60 = .ok (.iload_n 0, 1) := by decide +kernel
theorem d2_61 : decode method_3_code 61 = .ok (.bipush 37, 2) := by decide +kernel
theorem d2_63 : decode method_3_code 63 = .ok (.if_icmp .eq 69, 3) := by decide +kernel
theorem d2_66 : decode method_3_code 66 = .ok (.iload_n 0, 1) := by decide +kernel
theorem d2_67 : decode method_3_code 67 = .ok (.bipush 38, 2) := by decide +kernel
theorem d2_69 : decode method_3_code 69 = .ok (.if_icmp .eq 63, 3) := by decide +kernel
theorem d2_72 : decode method_3_code 72 = .ok (.iload_n 0, 1) := by decide +kernel
theorem d2_73 : decode method_3_code 73 = .ok (.bipush 39, 2) := by decide +kernel
theorem d2_75 : decode method_3_code 75 = .ok (.if_icmp .eq 57, 3) := by decide +kernel
theorem d2_78 : decode method_3_code 78 = .ok (.iload_n 0, 1) := by decide +kernel
theorem d2_79 : decode method_3_code 79 = .ok (.bipush 42, 2) := by decide +kernel
theorem d2_81 : decode method_3_code 81 = .ok (.if_icmp .eq 51, 3) := by decide +kernel
theorem d2_84 : decode method_3_code 84 = .ok (.iload_n 0, 1) := by decide +kernel
theorem d2_85 : decode method_3_code 85 = .ok (.bipush 43, 2) := by decide +kernel
theorem d2_87 : decode method_3_code 87 = .ok (.if_icmp .eq 45, 3) := by decide +kernel
theorem d2_90 : decode method_3_code 90 = .ok (.iload_n 0, 1) := by decide +kernel
theorem d2_91 : decode method_3_code 91 = .ok (.bipush 45, 2) := by decide +kernel
theorem d2_93 : decode method_3_code 93 = .ok (.if_icmp .eq 39, 3) := by decide +kernel
theorem d2_96 : decode method_3_code 96 = .ok (.iload_n 0, 1) := by decide +kernel
theorem d2_97 : decode method_3_code 97 = .ok (.bipush 46, 2) := by decide +kernel
theorem d2_99 : decode method_3_code 99 = .ok (.if_icmp .eq 33, 3) := by decide +kernel
theorem d2_102 : decode method_3_code 102 = .ok (.iload_n 0, 1) := by decide +kernel
theorem d2_103 : decode method_3_code 103 = .ok (.bipush 94, 2) := by decide +kernel
theorem d2_105 : decode method_3_code 105 = .ok (.if_icmp .eq 27, 3) := by decide +kernel
theorem d2_108 : decode method_3_code 108 = .ok (.iload_n 0, 1) := by decide +kernel
theorem d2_109 : decode method_3_code 109 = .ok (.bipush 95, 2) := by decide +kernel
theorem d2_111 : decode method_3_code 111 = .ok (.if_icmp .eq 21, 3) := by decide +kernel
theorem d2_114 : decode method_3_code 114 = .ok (.iload_n 0, 1) := by decide +kernel
theorem d2_115 : decode method_3_code 115 = .ok (.bipush 96, 2) := by decide +kernel
theorem d2_117 : decode method_3_code 117 = .ok (.if_icmp .eq 15, 3) := by decide +kernel
theorem d2_120 : decode method_3_code 120 = .ok (.iload_n 0, 1) := by decide +kernel
theorem d2_121 : decode method_3_code 121 = .ok (.bipush 124, 2) := by decide +kernel
theorem d2_123 : decode method_3_code 123 = .ok (.if_icmp .eq 9, 3) := by decide +kernel
theorem d2_126 : decode method_3_code 126 = .ok (.iload_n 0, 1) := by decide +kernel
theorem d2_127 : decode method_3_code 127 = .ok (.bipush 126, 2) := by decide +kernel
theorem d2_129 : decode method_3_code 129 = .ok (.if_icmp .ne 7, 3) := by decide +kernel
theorem d2_132 : decode method_3_code 132 = .ok (.iconst 1, 1) := by decide +kernel
theorem d2_133 : decode method_3_code 133 = .ok (.goto 4, 3) := by decide +kernel
theorem d2_136 : decode method_3_code 136 = .ok (.iconst 0, 1) := by decide +kernel
theorem d2_137 : decode method_3_code 137 = .ok (.ireturn, 1) := by decide +kernel
theorem pn_2 : plainName "com/example/exception_mapper/exceptionmapper/HttpSyntaxInTokenPinLaw" = true := by first | (simp [plainName, overriddenIn]; done) | decide +kernel
theorem ef_2 (m : MethodId) (x0 : Int32) : entryFrame m #[(.int x0)] 1 = mkF m 0 #[.val (.int x0)] [] := by first | (simp [entryFrame, mkF, argsToLocals, Value.category]; done) | rfl
def g2_42 (p1 : Int32) : Int32 := (if p1 = (33 : Int32) then (1 : Int32) else (if p1 = (35 : Int32) then (1 : Int32) else (if p1 = (36 : Int32) then (1 : Int32) else (if p1 = (37 : Int32) then (1 : Int32) else (if p1 = (38 : Int32) then (1 : Int32) else (if p1 = (39 : Int32) then (1 : Int32) else (if p1 = (42 : Int32) then (1 : Int32) else (if p1 = (43 : Int32) then (1 : Int32) else (if p1 = (45 : Int32) then (1 : Int32) else (if p1 = (46 : Int32) then (1 : Int32) else (if p1 = (94 : Int32) then (1 : Int32) else (if p1 = (95 : Int32) then (1 : Int32) else (if p1 = (96 : Int32) then (1 : Int32) else (if p1 = (124 : Int32) then (1 : Int32) else (if p1 = (126 : Int32) then (1 : Int32) else (0 : Int32))))))))))))))))
def g2_28 (p1 : Int32) : Int32 := (if p1 < (48 : Int32) then (g2_42 p1) else (if (57 : Int32) < p1 then (g2_42 p1) else (1 : Int32)))
def g2_14 (p1 : Int32) : Int32 := (if p1 < (65 : Int32) then (g2_28 p1) else (if (90 : Int32) < p1 then (g2_28 p1) else (1 : Int32)))
def f2 (p1 : Int32) : Int32 := (if p1 < (97 : Int32) then (g2_14 p1) else (if (122 : Int32) < p1 then (g2_14 p1) else (1 : Int32)))
def Q2 (Z : State) (p1 : Int32) (h0 : Heap) (n0 : Nat) (v : Option Value) (h : Heap) (L : List Loc) : Prop := v = some (.int (f2 p1)) ∧ Fr n0 L ∧ h = h0
set_option maxRecDepth 65536 in
set_option maxHeartbeats 40000000 in
theorem rm2 (l : Launch) (Z : State) (a0 : Array Value) (hw : ∀ d ∈ tables_1, d.before a0 Z = true) (ws : List Jvm.Cond) (p1 : Int32) (h0 : Heap) (n0 : Nat) (Z0 : n0 ≤ h0.size) :
    MetFree l (⟨"com/example/exception_mapper/exceptionmapper/HttpSyntaxInTokenPinLaw", "expected", "(I)Z"⟩ : MethodName) (head1 (Jvm.Cond.code (⟨"com/example/exception_mapper/exceptionmapper/HttpSyntaxInTokenPinLaw", "expected", "(I)Z"⟩ : MethodName) method_3_code 1 (some .boolean) :: ws) ({ frames := 0, cells := 0, slots := 0, locals := 0 } : Room)) (fun a U => a = #[(.int p1)] ∧ Z.Warmed39 U.vm ∧ U.heap = h0) (fun _ _ _ _ _ => True) (fun _ U o U' => ∃ v L, o = .returned v ∧ Q2 Z p1 h0 n0 v U'.heap L ∧ FrameEnd U o U' L ({ frames := 0, cells := 0, slots := 0, locals := 0 } : Room).cells ({ frames := 0, cells := 0, slots := 0, locals := 0 } : Room).slots) := by
  refine MetFree.of_bodySF (plainFor_of_name pn_2) hisR ?_
  intro p e s m args below meth c s₁ Bd hml0 hP hK
  obtain ⟨rfl, hZ, hh⟩ := hP
  have hx := Bd.exec
  have hby := Bd.bytes
  have hml : c.maxLocals = 1 := hml0
  have hown : s.vm.findClass "com/example/exception_mapper/exceptionmapper/HttpSyntaxInTokenPinLaw" = some m.cls := findClass_of_methodNamed Bd.named
  have hnm := (name_of_methodNamed Bd.named Bd.method).1
  have X0 : Stand p l e ({ frames := 0, cells := 0, slots := 0, locals := 0 } : Room) s m #[(.int p1)] below meth c s₁ [] 0 0 := Stand.of_body Bd
  have e0 : s₁.heap = h0 := by rw [← hh, Bd.state]; rfl
  have N0 := Fr.nil n0
  have pre0 : ∀ t, Steps p.tables e below (s₁.setTop (mkF m 0 #[.val (.int p1)] [])) t → Steps p.tables e below (s₁.setTop (entryFrame m #[(.int p1)] 1)) t := fun t k => castTop (ef_2 m p1) k
  refine cps (A := (∀ t, Steps p.tables e below (s₁.setTop (mkF m 42 #[.val (.int p1)] [])) t → Steps p.tables e below (s₁.setTop (entryFrame m #[(.int p1)] 1)) t) ∧ f2 p1 = g2_42 p1) (fun join42 => ?_) (fun ⟨pj42, hq42⟩ => ?_)
  rotate_left
  · skip
    have pre2 : ∀ t, Steps p.tables e below (s₁.setTop (mkF m 45 #[.val (.int p1)] [(.int (33 : Int32)), (.int p1)])) t → Steps p.tables e below (s₁.setTop (entryFrame m #[(.int p1)] 1)) t := fun t kt => by
      refine pj42 _ ?_
      show Steps p.tables e below (s₁.setTop (mkF m 42 #[.val (.int p1)] [])) _
      refine XS.iloadN X0.here hx rfl (hb hby d2_42) rfl ?_
      show Steps p.tables e below (s₁.setTop (mkF m 43 _ [(.int p1)])) _
      refine XS.bipush X0.here hx rfl (hb hby d2_43) ?_
      exact kt
    by_cases hc3 : p1 = (33 : Int32)
    · skip
      obtain ⟨fs, hr, hrun, hended, hW, hsame⟩ := X0.leave (v := some (.int (1 : Int32))) (fun h => by rw [Bd.returns] at h; cases h) (by first | exact BodyLoose.notSynchronized Bd | exact Body.notSynchronized Bd)
      refine ⟨_, _, pre2 _ ?_, hrun, hended, _, _, rfl, ?_, ⟨_, rfl⟩, hW, hsame.mono (by decide) (by decide)⟩
      · show Steps p.tables e below (s₁.setTop (mkF m 45 #[.val (.int p1)] [(.int (33 : Int32)), (.int p1)])) _
        refine XS.icmpYes X0.here hx rfl (pc0 := 45) (pc' := 132) rfl (hb hby d2_45) rfl (teq hc3).1 (by decide) (by decide) ?_
        show Steps p.tables e below (s₁.setTop (mkF m 132 _ [])) _
        refine XS.iconst X0.here hx rfl (hb hby d2_132) ?_
        show Steps p.tables e below (s₁.setTop (mkF m 133 _ [(.int (1 : Int32))])) _
        refine XS.goto X0.here hx rfl (pc0 := 133) (pc' := 137) rfl (hb hby d2_133) (by decide) (by decide) ?_
        show Steps p.tables e below (s₁.setTop (mkF m 137 #[.val (.int p1)] [(.int (1 : Int32))])) _
        exact retN X0 hx (t := .boolean) Bd.returns (by simp) (hb hby d2_137) hr
      · show Q2 Z p1 h0 n0 _ s₁.heap _
        rw [e0]
        exact ⟨congrArg (fun z => some (Value.int z)) (hq42.trans (by rw [g2_42, if_pos hc3] : g2_42 p1 = (1 : Int32))).symm, N0, rfl⟩
    · skip
      have pre4 : ∀ t, Steps p.tables e below (s₁.setTop (mkF m 51 #[.val (.int p1)] [(.int (35 : Int32)), (.int p1)])) t → Steps p.tables e below (s₁.setTop (entryFrame m #[(.int p1)] 1)) t := fun t kt => by
        refine pre2 _ ?_
        show Steps p.tables e below (s₁.setTop (mkF m 45 #[.val (.int p1)] [(.int (33 : Int32)), (.int p1)])) _
        refine XS.icmpNo X0.here hx rfl (hb hby d2_45) rfl (feq hc3).1 ?_
        show Steps p.tables e below (s₁.setTop (mkF m 48 _ [])) _
        refine XS.iloadN X0.here hx rfl (hb hby d2_48) rfl ?_
        show Steps p.tables e below (s₁.setTop (mkF m 49 _ [(.int p1)])) _
        refine XS.bipush X0.here hx rfl (hb hby d2_49) ?_
        exact kt
      by_cases hc5 : p1 = (35 : Int32)
      · skip
        obtain ⟨fs, hr, hrun, hended, hW, hsame⟩ := X0.leave (v := some (.int (1 : Int32))) (fun h => by rw [Bd.returns] at h; cases h) (by first | exact BodyLoose.notSynchronized Bd | exact Body.notSynchronized Bd)
        refine ⟨_, _, pre4 _ ?_, hrun, hended, _, _, rfl, ?_, ⟨_, rfl⟩, hW, hsame.mono (by decide) (by decide)⟩
        · show Steps p.tables e below (s₁.setTop (mkF m 51 #[.val (.int p1)] [(.int (35 : Int32)), (.int p1)])) _
          refine XS.icmpYes X0.here hx rfl (pc0 := 51) (pc' := 132) rfl (hb hby d2_51) rfl (teq hc5).1 (by decide) (by decide) ?_
          show Steps p.tables e below (s₁.setTop (mkF m 132 _ [])) _
          refine XS.iconst X0.here hx rfl (hb hby d2_132) ?_
          show Steps p.tables e below (s₁.setTop (mkF m 133 _ [(.int (1 : Int32))])) _
          refine XS.goto X0.here hx rfl (pc0 := 133) (pc' := 137) rfl (hb hby d2_133) (by decide) (by decide) ?_
          show Steps p.tables e below (s₁.setTop (mkF m 137 #[.val (.int p1)] [(.int (1 : Int32))])) _
          exact retN X0 hx (t := .boolean) Bd.returns (by simp) (hb hby d2_137) hr
        · show Q2 Z p1 h0 n0 _ s₁.heap _
          rw [e0]
          exact ⟨congrArg (fun z => some (Value.int z)) (hq42.trans (by rw [g2_42, if_neg hc3, if_pos hc5] : g2_42 p1 = (1 : Int32))).symm, N0, rfl⟩
      · skip
        have pre6 : ∀ t, Steps p.tables e below (s₁.setTop (mkF m 57 #[.val (.int p1)] [(.int (36 : Int32)), (.int p1)])) t → Steps p.tables e below (s₁.setTop (entryFrame m #[(.int p1)] 1)) t := fun t kt => by
          refine pre4 _ ?_
          show Steps p.tables e below (s₁.setTop (mkF m 51 #[.val (.int p1)] [(.int (35 : Int32)), (.int p1)])) _
          refine XS.icmpNo X0.here hx rfl (hb hby d2_51) rfl (feq hc5).1 ?_
          show Steps p.tables e below (s₁.setTop (mkF m 54 _ [])) _
          refine XS.iloadN X0.here hx rfl (hb hby d2_54) rfl ?_
          show Steps p.tables e below (s₁.setTop (mkF m 55 _ [(.int p1)])) _
          refine XS.bipush X0.here hx rfl (hb hby d2_55) ?_
          exact kt
        by_cases hc7 : p1 = (36 : Int32)
        · skip
          obtain ⟨fs, hr, hrun, hended, hW, hsame⟩ := X0.leave (v := some (.int (1 : Int32))) (fun h => by rw [Bd.returns] at h; cases h) (by first | exact BodyLoose.notSynchronized Bd | exact Body.notSynchronized Bd)
          refine ⟨_, _, pre6 _ ?_, hrun, hended, _, _, rfl, ?_, ⟨_, rfl⟩, hW, hsame.mono (by decide) (by decide)⟩
          · show Steps p.tables e below (s₁.setTop (mkF m 57 #[.val (.int p1)] [(.int (36 : Int32)), (.int p1)])) _
            refine XS.icmpYes X0.here hx rfl (pc0 := 57) (pc' := 132) rfl (hb hby d2_57) rfl (teq hc7).1 (by decide) (by decide) ?_
            show Steps p.tables e below (s₁.setTop (mkF m 132 _ [])) _
            refine XS.iconst X0.here hx rfl (hb hby d2_132) ?_
            show Steps p.tables e below (s₁.setTop (mkF m 133 _ [(.int (1 : Int32))])) _
            refine XS.goto X0.here hx rfl (pc0 := 133) (pc' := 137) rfl (hb hby d2_133) (by decide) (by decide) ?_
            show Steps p.tables e below (s₁.setTop (mkF m 137 #[.val (.int p1)] [(.int (1 : Int32))])) _
            exact retN X0 hx (t := .boolean) Bd.returns (by simp) (hb hby d2_137) hr
          · show Q2 Z p1 h0 n0 _ s₁.heap _
            rw [e0]
            exact ⟨congrArg (fun z => some (Value.int z)) (hq42.trans (by rw [g2_42, if_neg hc3, if_neg hc5, if_pos hc7] : g2_42 p1 = (1 : Int32))).symm, N0, rfl⟩
        · skip
          have pre8 : ∀ t, Steps p.tables e below (s₁.setTop (mkF m 63 #[.val (.int p1)] [(.int (37 : Int32)), (.int p1)])) t → Steps p.tables e below (s₁.setTop (entryFrame m #[(.int p1)] 1)) t := fun t kt => by
            refine pre6 _ ?_
            show Steps p.tables e below (s₁.setTop (mkF m 57 #[.val (.int p1)] [(.int (36 : Int32)), (.int p1)])) _
            refine XS.icmpNo X0.here hx rfl (hb hby d2_57) rfl (feq hc7).1 ?_
            show Steps p.tables e below (s₁.setTop (mkF m 60 _ [])) _
            refine XS.iloadN X0.here hx rfl (hb hby d2_60) rfl ?_
            show Steps p.tables e below (s₁.setTop (mkF m 61 _ [(.int p1)])) _
            refine XS.bipush X0.here hx rfl (hb hby d2_61) ?_
            exact kt
          by_cases hc9 : p1 = (37 : Int32)
          · skip
            obtain ⟨fs, hr, hrun, hended, hW, hsame⟩ := X0.leave (v := some (.int (1 : Int32))) (fun h => by rw [Bd.returns] at h; cases h) (by first | exact BodyLoose.notSynchronized Bd | exact Body.notSynchronized Bd)
            refine ⟨_, _, pre8 _ ?_, hrun, hended, _, _, rfl, ?_, ⟨_, rfl⟩, hW, hsame.mono (by decide) (by decide)⟩
            · show Steps p.tables e below (s₁.setTop (mkF m 63 #[.val (.int p1)] [(.int (37 : Int32)), (.int p1)])) _
              refine XS.icmpYes X0.here hx rfl (pc0 := 63) (pc' := 132) rfl (hb hby d2_63) rfl (teq hc9).1 (by decide) (by decide) ?_
              show Steps p.tables e below (s₁.setTop (mkF m 132 _ [])) _
              refine XS.iconst X0.here hx rfl (hb hby d2_132) ?_
              show Steps p.tables e below (s₁.setTop (mkF m 133 _ [(.int (1 : Int32))])) _
              refine XS.goto X0.here hx rfl (pc0 := 133) (pc' := 137) rfl (hb hby d2_133) (by decide) (by decide) ?_
              show Steps p.tables e below (s₁.setTop (mkF m 137 #[.val (.int p1)] [(.int (1 : Int32))])) _
              exact retN X0 hx (t := .boolean) Bd.returns (by simp) (hb hby d2_137) hr
            · show Q2 Z p1 h0 n0 _ s₁.heap _
              rw [e0]
              exact ⟨congrArg (fun z => some (Value.int z)) (hq42.trans (by rw [g2_42, if_neg hc3, if_neg hc5, if_neg hc7, if_pos hc9] : g2_42 p1 = (1 : Int32))).symm, N0, rfl⟩
          · skip
            have pre10 : ∀ t, Steps p.tables e below (s₁.setTop (mkF m 69 #[.val (.int p1)] [(.int (38 : Int32)), (.int p1)])) t → Steps p.tables e below (s₁.setTop (entryFrame m #[(.int p1)] 1)) t := fun t kt => by
              refine pre8 _ ?_
              show Steps p.tables e below (s₁.setTop (mkF m 63 #[.val (.int p1)] [(.int (37 : Int32)), (.int p1)])) _
              refine XS.icmpNo X0.here hx rfl (hb hby d2_63) rfl (feq hc9).1 ?_
              show Steps p.tables e below (s₁.setTop (mkF m 66 _ [])) _
              refine XS.iloadN X0.here hx rfl (hb hby d2_66) rfl ?_
              show Steps p.tables e below (s₁.setTop (mkF m 67 _ [(.int p1)])) _
              refine XS.bipush X0.here hx rfl (hb hby d2_67) ?_
              exact kt
            by_cases hc11 : p1 = (38 : Int32)
            · skip
              obtain ⟨fs, hr, hrun, hended, hW, hsame⟩ := X0.leave (v := some (.int (1 : Int32))) (fun h => by rw [Bd.returns] at h; cases h) (by first | exact BodyLoose.notSynchronized Bd | exact Body.notSynchronized Bd)
              refine ⟨_, _, pre10 _ ?_, hrun, hended, _, _, rfl, ?_, ⟨_, rfl⟩, hW, hsame.mono (by decide) (by decide)⟩
              · show Steps p.tables e below (s₁.setTop (mkF m 69 #[.val (.int p1)] [(.int (38 : Int32)), (.int p1)])) _
                refine XS.icmpYes X0.here hx rfl (pc0 := 69) (pc' := 132) rfl (hb hby d2_69) rfl (teq hc11).1 (by decide) (by decide) ?_
                show Steps p.tables e below (s₁.setTop (mkF m 132 _ [])) _
                refine XS.iconst X0.here hx rfl (hb hby d2_132) ?_
                show Steps p.tables e below (s₁.setTop (mkF m 133 _ [(.int (1 : Int32))])) _
                refine XS.goto X0.here hx rfl (pc0 := 133) (pc' := 137) rfl (hb hby d2_133) (by decide) (by decide) ?_
                show Steps p.tables e below (s₁.setTop (mkF m 137 #[.val (.int p1)] [(.int (1 : Int32))])) _
                exact retN X0 hx (t := .boolean) Bd.returns (by simp) (hb hby d2_137) hr
              · show Q2 Z p1 h0 n0 _ s₁.heap _
                rw [e0]
                exact ⟨congrArg (fun z => some (Value.int z)) (hq42.trans (by rw [g2_42, if_neg hc3, if_neg hc5, if_neg hc7, if_neg hc9, if_pos hc11] : g2_42 p1 = (1 : Int32))).symm, N0, rfl⟩
            · skip
              have pre12 : ∀ t, Steps p.tables e below (s₁.setTop (mkF m 75 #[.val (.int p1)] [(.int (39 : Int32)), (.int p1)])) t → Steps p.tables e below (s₁.setTop (entryFrame m #[(.int p1)] 1)) t := fun t kt => by
                refine pre10 _ ?_
                show Steps p.tables e below (s₁.setTop (mkF m 69 #[.val (.int p1)] [(.int (38 : Int32)), (.int p1)])) _
                refine XS.icmpNo X0.here hx rfl (hb hby d2_69) rfl (feq hc11).1 ?_
                show Steps p.tables e below (s₁.setTop (mkF m 72 _ [])) _
                refine XS.iloadN X0.here hx rfl (hb hby d2_72) rfl ?_
                show Steps p.tables e below (s₁.setTop (mkF m 73 _ [(.int p1)])) _
                refine XS.bipush X0.here hx rfl (hb hby d2_73) ?_
                exact kt
              by_cases hc13 : p1 = (39 : Int32)
              · skip
                obtain ⟨fs, hr, hrun, hended, hW, hsame⟩ := X0.leave (v := some (.int (1 : Int32))) (fun h => by rw [Bd.returns] at h; cases h) (by first | exact BodyLoose.notSynchronized Bd | exact Body.notSynchronized Bd)
                refine ⟨_, _, pre12 _ ?_, hrun, hended, _, _, rfl, ?_, ⟨_, rfl⟩, hW, hsame.mono (by decide) (by decide)⟩
                · show Steps p.tables e below (s₁.setTop (mkF m 75 #[.val (.int p1)] [(.int (39 : Int32)), (.int p1)])) _
                  refine XS.icmpYes X0.here hx rfl (pc0 := 75) (pc' := 132) rfl (hb hby d2_75) rfl (teq hc13).1 (by decide) (by decide) ?_
                  show Steps p.tables e below (s₁.setTop (mkF m 132 _ [])) _
                  refine XS.iconst X0.here hx rfl (hb hby d2_132) ?_
                  show Steps p.tables e below (s₁.setTop (mkF m 133 _ [(.int (1 : Int32))])) _
                  refine XS.goto X0.here hx rfl (pc0 := 133) (pc' := 137) rfl (hb hby d2_133) (by decide) (by decide) ?_
                  show Steps p.tables e below (s₁.setTop (mkF m 137 #[.val (.int p1)] [(.int (1 : Int32))])) _
                  exact retN X0 hx (t := .boolean) Bd.returns (by simp) (hb hby d2_137) hr
                · show Q2 Z p1 h0 n0 _ s₁.heap _
                  rw [e0]
                  exact ⟨congrArg (fun z => some (Value.int z)) (hq42.trans (by rw [g2_42, if_neg hc3, if_neg hc5, if_neg hc7, if_neg hc9, if_neg hc11, if_pos hc13] : g2_42 p1 = (1 : Int32))).symm, N0, rfl⟩
              · skip
                have pre14 : ∀ t, Steps p.tables e below (s₁.setTop (mkF m 81 #[.val (.int p1)] [(.int (42 : Int32)), (.int p1)])) t → Steps p.tables e below (s₁.setTop (entryFrame m #[(.int p1)] 1)) t := fun t kt => by
                  refine pre12 _ ?_
                  show Steps p.tables e below (s₁.setTop (mkF m 75 #[.val (.int p1)] [(.int (39 : Int32)), (.int p1)])) _
                  refine XS.icmpNo X0.here hx rfl (hb hby d2_75) rfl (feq hc13).1 ?_
                  show Steps p.tables e below (s₁.setTop (mkF m 78 _ [])) _
                  refine XS.iloadN X0.here hx rfl (hb hby d2_78) rfl ?_
                  show Steps p.tables e below (s₁.setTop (mkF m 79 _ [(.int p1)])) _
                  refine XS.bipush X0.here hx rfl (hb hby d2_79) ?_
                  exact kt
                by_cases hc15 : p1 = (42 : Int32)
                · skip
                  obtain ⟨fs, hr, hrun, hended, hW, hsame⟩ := X0.leave (v := some (.int (1 : Int32))) (fun h => by rw [Bd.returns] at h; cases h) (by first | exact BodyLoose.notSynchronized Bd | exact Body.notSynchronized Bd)
                  refine ⟨_, _, pre14 _ ?_, hrun, hended, _, _, rfl, ?_, ⟨_, rfl⟩, hW, hsame.mono (by decide) (by decide)⟩
                  · show Steps p.tables e below (s₁.setTop (mkF m 81 #[.val (.int p1)] [(.int (42 : Int32)), (.int p1)])) _
                    refine XS.icmpYes X0.here hx rfl (pc0 := 81) (pc' := 132) rfl (hb hby d2_81) rfl (teq hc15).1 (by decide) (by decide) ?_
                    show Steps p.tables e below (s₁.setTop (mkF m 132 _ [])) _
                    refine XS.iconst X0.here hx rfl (hb hby d2_132) ?_
                    show Steps p.tables e below (s₁.setTop (mkF m 133 _ [(.int (1 : Int32))])) _
                    refine XS.goto X0.here hx rfl (pc0 := 133) (pc' := 137) rfl (hb hby d2_133) (by decide) (by decide) ?_
                    show Steps p.tables e below (s₁.setTop (mkF m 137 #[.val (.int p1)] [(.int (1 : Int32))])) _
                    exact retN X0 hx (t := .boolean) Bd.returns (by simp) (hb hby d2_137) hr
                  · show Q2 Z p1 h0 n0 _ s₁.heap _
                    rw [e0]
                    exact ⟨congrArg (fun z => some (Value.int z)) (hq42.trans (by rw [g2_42, if_neg hc3, if_neg hc5, if_neg hc7, if_neg hc9, if_neg hc11, if_neg hc13, if_pos hc15] : g2_42 p1 = (1 : Int32))).symm, N0, rfl⟩
                · skip
                  have pre16 : ∀ t, Steps p.tables e below (s₁.setTop (mkF m 87 #[.val (.int p1)] [(.int (43 : Int32)), (.int p1)])) t → Steps p.tables e below (s₁.setTop (entryFrame m #[(.int p1)] 1)) t := fun t kt => by
                    refine pre14 _ ?_
                    show Steps p.tables e below (s₁.setTop (mkF m 81 #[.val (.int p1)] [(.int (42 : Int32)), (.int p1)])) _
                    refine XS.icmpNo X0.here hx rfl (hb hby d2_81) rfl (feq hc15).1 ?_
                    show Steps p.tables e below (s₁.setTop (mkF m 84 _ [])) _
                    refine XS.iloadN X0.here hx rfl (hb hby d2_84) rfl ?_
                    show Steps p.tables e below (s₁.setTop (mkF m 85 _ [(.int p1)])) _
                    refine XS.bipush X0.here hx rfl (hb hby d2_85) ?_
                    exact kt
                  by_cases hc17 : p1 = (43 : Int32)
                  · skip
                    obtain ⟨fs, hr, hrun, hended, hW, hsame⟩ := X0.leave (v := some (.int (1 : Int32))) (fun h => by rw [Bd.returns] at h; cases h) (by first | exact BodyLoose.notSynchronized Bd | exact Body.notSynchronized Bd)
                    refine ⟨_, _, pre16 _ ?_, hrun, hended, _, _, rfl, ?_, ⟨_, rfl⟩, hW, hsame.mono (by decide) (by decide)⟩
                    · show Steps p.tables e below (s₁.setTop (mkF m 87 #[.val (.int p1)] [(.int (43 : Int32)), (.int p1)])) _
                      refine XS.icmpYes X0.here hx rfl (pc0 := 87) (pc' := 132) rfl (hb hby d2_87) rfl (teq hc17).1 (by decide) (by decide) ?_
                      show Steps p.tables e below (s₁.setTop (mkF m 132 _ [])) _
                      refine XS.iconst X0.here hx rfl (hb hby d2_132) ?_
                      show Steps p.tables e below (s₁.setTop (mkF m 133 _ [(.int (1 : Int32))])) _
                      refine XS.goto X0.here hx rfl (pc0 := 133) (pc' := 137) rfl (hb hby d2_133) (by decide) (by decide) ?_
                      show Steps p.tables e below (s₁.setTop (mkF m 137 #[.val (.int p1)] [(.int (1 : Int32))])) _
                      exact retN X0 hx (t := .boolean) Bd.returns (by simp) (hb hby d2_137) hr
                    · show Q2 Z p1 h0 n0 _ s₁.heap _
                      rw [e0]
                      exact ⟨congrArg (fun z => some (Value.int z)) (hq42.trans (by rw [g2_42, if_neg hc3, if_neg hc5, if_neg hc7, if_neg hc9, if_neg hc11, if_neg hc13, if_neg hc15, if_pos hc17] : g2_42 p1 = (1 : Int32))).symm, N0, rfl⟩
                  · skip
                    have pre18 : ∀ t, Steps p.tables e below (s₁.setTop (mkF m 93 #[.val (.int p1)] [(.int (45 : Int32)), (.int p1)])) t → Steps p.tables e below (s₁.setTop (entryFrame m #[(.int p1)] 1)) t := fun t kt => by
                      refine pre16 _ ?_
                      show Steps p.tables e below (s₁.setTop (mkF m 87 #[.val (.int p1)] [(.int (43 : Int32)), (.int p1)])) _
                      refine XS.icmpNo X0.here hx rfl (hb hby d2_87) rfl (feq hc17).1 ?_
                      show Steps p.tables e below (s₁.setTop (mkF m 90 _ [])) _
                      refine XS.iloadN X0.here hx rfl (hb hby d2_90) rfl ?_
                      show Steps p.tables e below (s₁.setTop (mkF m 91 _ [(.int p1)])) _
                      refine XS.bipush X0.here hx rfl (hb hby d2_91) ?_
                      exact kt
                    by_cases hc19 : p1 = (45 : Int32)
                    · skip
                      obtain ⟨fs, hr, hrun, hended, hW, hsame⟩ := X0.leave (v := some (.int (1 : Int32))) (fun h => by rw [Bd.returns] at h; cases h) (by first | exact BodyLoose.notSynchronized Bd | exact Body.notSynchronized Bd)
                      refine ⟨_, _, pre18 _ ?_, hrun, hended, _, _, rfl, ?_, ⟨_, rfl⟩, hW, hsame.mono (by decide) (by decide)⟩
                      · show Steps p.tables e below (s₁.setTop (mkF m 93 #[.val (.int p1)] [(.int (45 : Int32)), (.int p1)])) _
                        refine XS.icmpYes X0.here hx rfl (pc0 := 93) (pc' := 132) rfl (hb hby d2_93) rfl (teq hc19).1 (by decide) (by decide) ?_
                        show Steps p.tables e below (s₁.setTop (mkF m 132 _ [])) _
                        refine XS.iconst X0.here hx rfl (hb hby d2_132) ?_
                        show Steps p.tables e below (s₁.setTop (mkF m 133 _ [(.int (1 : Int32))])) _
                        refine XS.goto X0.here hx rfl (pc0 := 133) (pc' := 137) rfl (hb hby d2_133) (by decide) (by decide) ?_
                        show Steps p.tables e below (s₁.setTop (mkF m 137 #[.val (.int p1)] [(.int (1 : Int32))])) _
                        exact retN X0 hx (t := .boolean) Bd.returns (by simp) (hb hby d2_137) hr
                      · show Q2 Z p1 h0 n0 _ s₁.heap _
                        rw [e0]
                        exact ⟨congrArg (fun z => some (Value.int z)) (hq42.trans (by rw [g2_42, if_neg hc3, if_neg hc5, if_neg hc7, if_neg hc9, if_neg hc11, if_neg hc13, if_neg hc15, if_neg hc17, if_pos hc19] : g2_42 p1 = (1 : Int32))).symm, N0, rfl⟩
                    · skip
                      have pre20 : ∀ t, Steps p.tables e below (s₁.setTop (mkF m 99 #[.val (.int p1)] [(.int (46 : Int32)), (.int p1)])) t → Steps p.tables e below (s₁.setTop (entryFrame m #[(.int p1)] 1)) t := fun t kt => by
                        refine pre18 _ ?_
                        show Steps p.tables e below (s₁.setTop (mkF m 93 #[.val (.int p1)] [(.int (45 : Int32)), (.int p1)])) _
                        refine XS.icmpNo X0.here hx rfl (hb hby d2_93) rfl (feq hc19).1 ?_
                        show Steps p.tables e below (s₁.setTop (mkF m 96 _ [])) _
                        refine XS.iloadN X0.here hx rfl (hb hby d2_96) rfl ?_
                        show Steps p.tables e below (s₁.setTop (mkF m 97 _ [(.int p1)])) _
                        refine XS.bipush X0.here hx rfl (hb hby d2_97) ?_
                        exact kt
                      by_cases hc21 : p1 = (46 : Int32)
                      · skip
                        obtain ⟨fs, hr, hrun, hended, hW, hsame⟩ := X0.leave (v := some (.int (1 : Int32))) (fun h => by rw [Bd.returns] at h; cases h) (by first | exact BodyLoose.notSynchronized Bd | exact Body.notSynchronized Bd)
                        refine ⟨_, _, pre20 _ ?_, hrun, hended, _, _, rfl, ?_, ⟨_, rfl⟩, hW, hsame.mono (by decide) (by decide)⟩
                        · show Steps p.tables e below (s₁.setTop (mkF m 99 #[.val (.int p1)] [(.int (46 : Int32)), (.int p1)])) _
                          refine XS.icmpYes X0.here hx rfl (pc0 := 99) (pc' := 132) rfl (hb hby d2_99) rfl (teq hc21).1 (by decide) (by decide) ?_
                          show Steps p.tables e below (s₁.setTop (mkF m 132 _ [])) _
                          refine XS.iconst X0.here hx rfl (hb hby d2_132) ?_
                          show Steps p.tables e below (s₁.setTop (mkF m 133 _ [(.int (1 : Int32))])) _
                          refine XS.goto X0.here hx rfl (pc0 := 133) (pc' := 137) rfl (hb hby d2_133) (by decide) (by decide) ?_
                          show Steps p.tables e below (s₁.setTop (mkF m 137 #[.val (.int p1)] [(.int (1 : Int32))])) _
                          exact retN X0 hx (t := .boolean) Bd.returns (by simp) (hb hby d2_137) hr
                        · show Q2 Z p1 h0 n0 _ s₁.heap _
                          rw [e0]
                          exact ⟨congrArg (fun z => some (Value.int z)) (hq42.trans (by rw [g2_42, if_neg hc3, if_neg hc5, if_neg hc7, if_neg hc9, if_neg hc11, if_neg hc13, if_neg hc15, if_neg hc17, if_neg hc19, if_pos hc21] : g2_42 p1 = (1 : Int32))).symm, N0, rfl⟩
                      · skip
                        have pre22 : ∀ t, Steps p.tables e below (s₁.setTop (mkF m 105 #[.val (.int p1)] [(.int (94 : Int32)), (.int p1)])) t → Steps p.tables e below (s₁.setTop (entryFrame m #[(.int p1)] 1)) t := fun t kt => by
                          refine pre20 _ ?_
                          show Steps p.tables e below (s₁.setTop (mkF m 99 #[.val (.int p1)] [(.int (46 : Int32)), (.int p1)])) _
                          refine XS.icmpNo X0.here hx rfl (hb hby d2_99) rfl (feq hc21).1 ?_
                          show Steps p.tables e below (s₁.setTop (mkF m 102 _ [])) _
                          refine XS.iloadN X0.here hx rfl (hb hby d2_102) rfl ?_
                          show Steps p.tables e below (s₁.setTop (mkF m 103 _ [(.int p1)])) _
                          refine XS.bipush X0.here hx rfl (hb hby d2_103) ?_
                          exact kt
                        by_cases hc23 : p1 = (94 : Int32)
                        · skip
                          obtain ⟨fs, hr, hrun, hended, hW, hsame⟩ := X0.leave (v := some (.int (1 : Int32))) (fun h => by rw [Bd.returns] at h; cases h) (by first | exact BodyLoose.notSynchronized Bd | exact Body.notSynchronized Bd)
                          refine ⟨_, _, pre22 _ ?_, hrun, hended, _, _, rfl, ?_, ⟨_, rfl⟩, hW, hsame.mono (by decide) (by decide)⟩
                          · show Steps p.tables e below (s₁.setTop (mkF m 105 #[.val (.int p1)] [(.int (94 : Int32)), (.int p1)])) _
                            refine XS.icmpYes X0.here hx rfl (pc0 := 105) (pc' := 132) rfl (hb hby d2_105) rfl (teq hc23).1 (by decide) (by decide) ?_
                            show Steps p.tables e below (s₁.setTop (mkF m 132 _ [])) _
                            refine XS.iconst X0.here hx rfl (hb hby d2_132) ?_
                            show Steps p.tables e below (s₁.setTop (mkF m 133 _ [(.int (1 : Int32))])) _
                            refine XS.goto X0.here hx rfl (pc0 := 133) (pc' := 137) rfl (hb hby d2_133) (by decide) (by decide) ?_
                            show Steps p.tables e below (s₁.setTop (mkF m 137 #[.val (.int p1)] [(.int (1 : Int32))])) _
                            exact retN X0 hx (t := .boolean) Bd.returns (by simp) (hb hby d2_137) hr
                          · show Q2 Z p1 h0 n0 _ s₁.heap _
                            rw [e0]
                            exact ⟨congrArg (fun z => some (Value.int z)) (hq42.trans (by rw [g2_42, if_neg hc3, if_neg hc5, if_neg hc7, if_neg hc9, if_neg hc11, if_neg hc13, if_neg hc15, if_neg hc17, if_neg hc19, if_neg hc21, if_pos hc23] : g2_42 p1 = (1 : Int32))).symm, N0, rfl⟩
                        · skip
                          have pre24 : ∀ t, Steps p.tables e below (s₁.setTop (mkF m 111 #[.val (.int p1)] [(.int (95 : Int32)), (.int p1)])) t → Steps p.tables e below (s₁.setTop (entryFrame m #[(.int p1)] 1)) t := fun t kt => by
                            refine pre22 _ ?_
                            show Steps p.tables e below (s₁.setTop (mkF m 105 #[.val (.int p1)] [(.int (94 : Int32)), (.int p1)])) _
                            refine XS.icmpNo X0.here hx rfl (hb hby d2_105) rfl (feq hc23).1 ?_
                            show Steps p.tables e below (s₁.setTop (mkF m 108 _ [])) _
                            refine XS.iloadN X0.here hx rfl (hb hby d2_108) rfl ?_
                            show Steps p.tables e below (s₁.setTop (mkF m 109 _ [(.int p1)])) _
                            refine XS.bipush X0.here hx rfl (hb hby d2_109) ?_
                            exact kt
                          by_cases hc25 : p1 = (95 : Int32)
                          · skip
                            obtain ⟨fs, hr, hrun, hended, hW, hsame⟩ := X0.leave (v := some (.int (1 : Int32))) (fun h => by rw [Bd.returns] at h; cases h) (by first | exact BodyLoose.notSynchronized Bd | exact Body.notSynchronized Bd)
                            refine ⟨_, _, pre24 _ ?_, hrun, hended, _, _, rfl, ?_, ⟨_, rfl⟩, hW, hsame.mono (by decide) (by decide)⟩
                            · show Steps p.tables e below (s₁.setTop (mkF m 111 #[.val (.int p1)] [(.int (95 : Int32)), (.int p1)])) _
                              refine XS.icmpYes X0.here hx rfl (pc0 := 111) (pc' := 132) rfl (hb hby d2_111) rfl (teq hc25).1 (by decide) (by decide) ?_
                              show Steps p.tables e below (s₁.setTop (mkF m 132 _ [])) _
                              refine XS.iconst X0.here hx rfl (hb hby d2_132) ?_
                              show Steps p.tables e below (s₁.setTop (mkF m 133 _ [(.int (1 : Int32))])) _
                              refine XS.goto X0.here hx rfl (pc0 := 133) (pc' := 137) rfl (hb hby d2_133) (by decide) (by decide) ?_
                              show Steps p.tables e below (s₁.setTop (mkF m 137 #[.val (.int p1)] [(.int (1 : Int32))])) _
                              exact retN X0 hx (t := .boolean) Bd.returns (by simp) (hb hby d2_137) hr
                            · show Q2 Z p1 h0 n0 _ s₁.heap _
                              rw [e0]
                              exact ⟨congrArg (fun z => some (Value.int z)) (hq42.trans (by rw [g2_42, if_neg hc3, if_neg hc5, if_neg hc7, if_neg hc9, if_neg hc11, if_neg hc13, if_neg hc15, if_neg hc17, if_neg hc19, if_neg hc21, if_neg hc23, if_pos hc25] : g2_42 p1 = (1 : Int32))).symm, N0, rfl⟩
                          · skip
                            have pre26 : ∀ t, Steps p.tables e below (s₁.setTop (mkF m 117 #[.val (.int p1)] [(.int (96 : Int32)), (.int p1)])) t → Steps p.tables e below (s₁.setTop (entryFrame m #[(.int p1)] 1)) t := fun t kt => by
                              refine pre24 _ ?_
                              show Steps p.tables e below (s₁.setTop (mkF m 111 #[.val (.int p1)] [(.int (95 : Int32)), (.int p1)])) _
                              refine XS.icmpNo X0.here hx rfl (hb hby d2_111) rfl (feq hc25).1 ?_
                              show Steps p.tables e below (s₁.setTop (mkF m 114 _ [])) _
                              refine XS.iloadN X0.here hx rfl (hb hby d2_114) rfl ?_
                              show Steps p.tables e below (s₁.setTop (mkF m 115 _ [(.int p1)])) _
                              refine XS.bipush X0.here hx rfl (hb hby d2_115) ?_
                              exact kt
                            by_cases hc27 : p1 = (96 : Int32)
                            · skip
                              obtain ⟨fs, hr, hrun, hended, hW, hsame⟩ := X0.leave (v := some (.int (1 : Int32))) (fun h => by rw [Bd.returns] at h; cases h) (by first | exact BodyLoose.notSynchronized Bd | exact Body.notSynchronized Bd)
                              refine ⟨_, _, pre26 _ ?_, hrun, hended, _, _, rfl, ?_, ⟨_, rfl⟩, hW, hsame.mono (by decide) (by decide)⟩
                              · show Steps p.tables e below (s₁.setTop (mkF m 117 #[.val (.int p1)] [(.int (96 : Int32)), (.int p1)])) _
                                refine XS.icmpYes X0.here hx rfl (pc0 := 117) (pc' := 132) rfl (hb hby d2_117) rfl (teq hc27).1 (by decide) (by decide) ?_
                                show Steps p.tables e below (s₁.setTop (mkF m 132 _ [])) _
                                refine XS.iconst X0.here hx rfl (hb hby d2_132) ?_
                                show Steps p.tables e below (s₁.setTop (mkF m 133 _ [(.int (1 : Int32))])) _
                                refine XS.goto X0.here hx rfl (pc0 := 133) (pc' := 137) rfl (hb hby d2_133) (by decide) (by decide) ?_
                                show Steps p.tables e below (s₁.setTop (mkF m 137 #[.val (.int p1)] [(.int (1 : Int32))])) _
                                exact retN X0 hx (t := .boolean) Bd.returns (by simp) (hb hby d2_137) hr
                              · show Q2 Z p1 h0 n0 _ s₁.heap _
                                rw [e0]
                                exact ⟨congrArg (fun z => some (Value.int z)) (hq42.trans (by rw [g2_42, if_neg hc3, if_neg hc5, if_neg hc7, if_neg hc9, if_neg hc11, if_neg hc13, if_neg hc15, if_neg hc17, if_neg hc19, if_neg hc21, if_neg hc23, if_neg hc25, if_pos hc27] : g2_42 p1 = (1 : Int32))).symm, N0, rfl⟩
                            · skip
                              have pre28 : ∀ t, Steps p.tables e below (s₁.setTop (mkF m 123 #[.val (.int p1)] [(.int (124 : Int32)), (.int p1)])) t → Steps p.tables e below (s₁.setTop (entryFrame m #[(.int p1)] 1)) t := fun t kt => by
                                refine pre26 _ ?_
                                show Steps p.tables e below (s₁.setTop (mkF m 117 #[.val (.int p1)] [(.int (96 : Int32)), (.int p1)])) _
                                refine XS.icmpNo X0.here hx rfl (hb hby d2_117) rfl (feq hc27).1 ?_
                                show Steps p.tables e below (s₁.setTop (mkF m 120 _ [])) _
                                refine XS.iloadN X0.here hx rfl (hb hby d2_120) rfl ?_
                                show Steps p.tables e below (s₁.setTop (mkF m 121 _ [(.int p1)])) _
                                refine XS.bipush X0.here hx rfl (hb hby d2_121) ?_
                                exact kt
                              by_cases hc29 : p1 = (124 : Int32)
                              · skip
                                obtain ⟨fs, hr, hrun, hended, hW, hsame⟩ := X0.leave (v := some (.int (1 : Int32))) (fun h => by rw [Bd.returns] at h; cases h) (by first | exact BodyLoose.notSynchronized Bd | exact Body.notSynchronized Bd)
                                refine ⟨_, _, pre28 _ ?_, hrun, hended, _, _, rfl, ?_, ⟨_, rfl⟩, hW, hsame.mono (by decide) (by decide)⟩
                                · show Steps p.tables e below (s₁.setTop (mkF m 123 #[.val (.int p1)] [(.int (124 : Int32)), (.int p1)])) _
                                  refine XS.icmpYes X0.here hx rfl (pc0 := 123) (pc' := 132) rfl (hb hby d2_123) rfl (teq hc29).1 (by decide) (by decide) ?_
                                  show Steps p.tables e below (s₁.setTop (mkF m 132 _ [])) _
                                  refine XS.iconst X0.here hx rfl (hb hby d2_132) ?_
                                  show Steps p.tables e below (s₁.setTop (mkF m 133 _ [(.int (1 : Int32))])) _
                                  refine XS.goto X0.here hx rfl (pc0 := 133) (pc' := 137) rfl (hb hby d2_133) (by decide) (by decide) ?_
                                  show Steps p.tables e below (s₁.setTop (mkF m 137 #[.val (.int p1)] [(.int (1 : Int32))])) _
                                  exact retN X0 hx (t := .boolean) Bd.returns (by simp) (hb hby d2_137) hr
                                · show Q2 Z p1 h0 n0 _ s₁.heap _
                                  rw [e0]
                                  exact ⟨congrArg (fun z => some (Value.int z)) (hq42.trans (by rw [g2_42, if_neg hc3, if_neg hc5, if_neg hc7, if_neg hc9, if_neg hc11, if_neg hc13, if_neg hc15, if_neg hc17, if_neg hc19, if_neg hc21, if_neg hc23, if_neg hc25, if_neg hc27, if_pos hc29] : g2_42 p1 = (1 : Int32))).symm, N0, rfl⟩
                              · skip
                                have pre30 : ∀ t, Steps p.tables e below (s₁.setTop (mkF m 129 #[.val (.int p1)] [(.int (126 : Int32)), (.int p1)])) t → Steps p.tables e below (s₁.setTop (entryFrame m #[(.int p1)] 1)) t := fun t kt => by
                                  refine pre28 _ ?_
                                  show Steps p.tables e below (s₁.setTop (mkF m 123 #[.val (.int p1)] [(.int (124 : Int32)), (.int p1)])) _
                                  refine XS.icmpNo X0.here hx rfl (hb hby d2_123) rfl (feq hc29).1 ?_
                                  show Steps p.tables e below (s₁.setTop (mkF m 126 _ [])) _
                                  refine XS.iloadN X0.here hx rfl (hb hby d2_126) rfl ?_
                                  show Steps p.tables e below (s₁.setTop (mkF m 127 _ [(.int p1)])) _
                                  refine XS.bipush X0.here hx rfl (hb hby d2_127) ?_
                                  exact kt
                                by_cases hc31 : p1 = (126 : Int32)
                                · skip
                                  obtain ⟨fs, hr, hrun, hended, hW, hsame⟩ := X0.leave (v := some (.int (1 : Int32))) (fun h => by rw [Bd.returns] at h; cases h) (by first | exact BodyLoose.notSynchronized Bd | exact Body.notSynchronized Bd)
                                  refine ⟨_, _, pre30 _ ?_, hrun, hended, _, _, rfl, ?_, ⟨_, rfl⟩, hW, hsame.mono (by decide) (by decide)⟩
                                  · show Steps p.tables e below (s₁.setTop (mkF m 129 #[.val (.int p1)] [(.int (126 : Int32)), (.int p1)])) _
                                    refine XS.icmpNo X0.here hx rfl (hb hby d2_129) rfl (teq hc31).2 ?_
                                    show Steps p.tables e below (s₁.setTop (mkF m 132 _ [])) _
                                    refine XS.iconst X0.here hx rfl (hb hby d2_132) ?_
                                    show Steps p.tables e below (s₁.setTop (mkF m 133 _ [(.int (1 : Int32))])) _
                                    refine XS.goto X0.here hx rfl (pc0 := 133) (pc' := 137) rfl (hb hby d2_133) (by decide) (by decide) ?_
                                    show Steps p.tables e below (s₁.setTop (mkF m 137 #[.val (.int p1)] [(.int (1 : Int32))])) _
                                    exact retN X0 hx (t := .boolean) Bd.returns (by simp) (hb hby d2_137) hr
                                  · show Q2 Z p1 h0 n0 _ s₁.heap _
                                    rw [e0]
                                    exact ⟨congrArg (fun z => some (Value.int z)) (hq42.trans (by rw [g2_42, if_neg hc3, if_neg hc5, if_neg hc7, if_neg hc9, if_neg hc11, if_neg hc13, if_neg hc15, if_neg hc17, if_neg hc19, if_neg hc21, if_neg hc23, if_neg hc25, if_neg hc27, if_neg hc29, if_pos hc31] : g2_42 p1 = (1 : Int32))).symm, N0, rfl⟩
                                · skip
                                  obtain ⟨fs, hr, hrun, hended, hW, hsame⟩ := X0.leave (v := some (.int (0 : Int32))) (fun h => by rw [Bd.returns] at h; cases h) (by first | exact BodyLoose.notSynchronized Bd | exact Body.notSynchronized Bd)
                                  refine ⟨_, _, pre30 _ ?_, hrun, hended, _, _, rfl, ?_, ⟨_, rfl⟩, hW, hsame.mono (by decide) (by decide)⟩
                                  · show Steps p.tables e below (s₁.setTop (mkF m 129 #[.val (.int p1)] [(.int (126 : Int32)), (.int p1)])) _
                                    refine XS.icmpYes X0.here hx rfl (pc0 := 129) (pc' := 136) rfl (hb hby d2_129) rfl (feq hc31).2 (by decide) (by decide) ?_
                                    show Steps p.tables e below (s₁.setTop (mkF m 136 _ [])) _
                                    refine XS.iconst X0.here hx rfl (hb hby d2_136) ?_
                                    show Steps p.tables e below (s₁.setTop (mkF m 137 #[.val (.int p1)] [(.int (0 : Int32))])) _
                                    exact retN X0 hx (t := .boolean) Bd.returns (by simp) (hb hby d2_137) hr
                                  · show Q2 Z p1 h0 n0 _ s₁.heap _
                                    rw [e0]
                                    exact ⟨congrArg (fun z => some (Value.int z)) (hq42.trans (by rw [g2_42, if_neg hc3, if_neg hc5, if_neg hc7, if_neg hc9, if_neg hc11, if_neg hc13, if_neg hc15, if_neg hc17, if_neg hc19, if_neg hc21, if_neg hc23, if_neg hc25, if_neg hc27, if_neg hc29, if_neg hc31] : g2_42 p1 = (0 : Int32))).symm, N0, rfl⟩
  refine cps (A := (∀ t, Steps p.tables e below (s₁.setTop (mkF m 28 #[.val (.int p1)] [])) t → Steps p.tables e below (s₁.setTop (entryFrame m #[(.int p1)] 1)) t) ∧ f2 p1 = g2_28 p1) (fun join28 => ?_) (fun ⟨pj28, hq28⟩ => ?_)
  rotate_left
  · skip
    have pre32 : ∀ t, Steps p.tables e below (s₁.setTop (mkF m 31 #[.val (.int p1)] [(.int (48 : Int32)), (.int p1)])) t → Steps p.tables e below (s₁.setTop (entryFrame m #[(.int p1)] 1)) t := fun t kt => by
      refine pj28 _ ?_
      show Steps p.tables e below (s₁.setTop (mkF m 28 #[.val (.int p1)] [])) _
      refine XS.iloadN X0.here hx rfl (hb hby d2_28) rfl ?_
      show Steps p.tables e below (s₁.setTop (mkF m 29 _ [(.int p1)])) _
      refine XS.bipush X0.here hx rfl (hb hby d2_29) ?_
      exact kt
    by_cases hc33 : p1 < (48 : Int32)
    · skip
      refine join42 ⟨fun t kt => by
        refine pre32 _ ?_
        show Steps p.tables e below (s₁.setTop (mkF m 31 #[.val (.int p1)] [(.int (48 : Int32)), (.int p1)])) _
        refine XS.icmpYes X0.here hx rfl (pc0 := 31) (pc' := 42) rfl (hb hby d2_31) rfl (tlt hc33).1 (by decide) (by decide) ?_
        exact kt, ?_⟩
      exact hq28.trans (by rw [g2_28, if_pos hc33] : g2_28 p1 = g2_42 p1)
    · skip
      have pre34 : ∀ t, Steps p.tables e below (s₁.setTop (mkF m 37 #[.val (.int p1)] [(.int (57 : Int32)), (.int p1)])) t → Steps p.tables e below (s₁.setTop (entryFrame m #[(.int p1)] 1)) t := fun t kt => by
        refine pre32 _ ?_
        show Steps p.tables e below (s₁.setTop (mkF m 31 #[.val (.int p1)] [(.int (48 : Int32)), (.int p1)])) _
        refine XS.icmpNo X0.here hx rfl (hb hby d2_31) rfl (flt hc33).1 ?_
        show Steps p.tables e below (s₁.setTop (mkF m 34 _ [])) _
        refine XS.iloadN X0.here hx rfl (hb hby d2_34) rfl ?_
        show Steps p.tables e below (s₁.setTop (mkF m 35 _ [(.int p1)])) _
        refine XS.bipush X0.here hx rfl (hb hby d2_35) ?_
        exact kt
      by_cases hc35 : (57 : Int32) < p1
      · skip
        refine join42 ⟨fun t kt => by
          refine pre34 _ ?_
          show Steps p.tables e below (s₁.setTop (mkF m 37 #[.val (.int p1)] [(.int (57 : Int32)), (.int p1)])) _
          refine XS.icmpYes X0.here hx rfl (pc0 := 37) (pc' := 42) rfl (hb hby d2_37) rfl (tlt hc35).2.2.1 (by decide) (by decide) ?_
          exact kt, ?_⟩
        exact hq28.trans (by rw [g2_28, if_neg hc33, if_pos hc35] : g2_28 p1 = g2_42 p1)
      · skip
        obtain ⟨fs, hr, hrun, hended, hW, hsame⟩ := X0.leave (v := some (.int (1 : Int32))) (fun h => by rw [Bd.returns] at h; cases h) (by first | exact BodyLoose.notSynchronized Bd | exact Body.notSynchronized Bd)
        refine ⟨_, _, pre34 _ ?_, hrun, hended, _, _, rfl, ?_, ⟨_, rfl⟩, hW, hsame.mono (by decide) (by decide)⟩
        · show Steps p.tables e below (s₁.setTop (mkF m 37 #[.val (.int p1)] [(.int (57 : Int32)), (.int p1)])) _
          refine XS.icmpNo X0.here hx rfl (hb hby d2_37) rfl (flt hc35).2.2.1 ?_
          show Steps p.tables e below (s₁.setTop (mkF m 40 _ [])) _
          refine XS.iconst X0.here hx rfl (hb hby d2_40) ?_
          show Steps p.tables e below (s₁.setTop (mkF m 41 #[.val (.int p1)] [(.int (1 : Int32))])) _
          exact retN X0 hx (t := .boolean) Bd.returns (by simp) (hb hby d2_41) hr
        · show Q2 Z p1 h0 n0 _ s₁.heap _
          rw [e0]
          exact ⟨congrArg (fun z => some (Value.int z)) (hq28.trans (by rw [g2_28, if_neg hc33, if_neg hc35] : g2_28 p1 = (1 : Int32))).symm, N0, rfl⟩
  refine cps (A := (∀ t, Steps p.tables e below (s₁.setTop (mkF m 14 #[.val (.int p1)] [])) t → Steps p.tables e below (s₁.setTop (entryFrame m #[(.int p1)] 1)) t) ∧ f2 p1 = g2_14 p1) (fun join14 => ?_) (fun ⟨pj14, hq14⟩ => ?_)
  rotate_left
  · skip
    have pre36 : ∀ t, Steps p.tables e below (s₁.setTop (mkF m 17 #[.val (.int p1)] [(.int (65 : Int32)), (.int p1)])) t → Steps p.tables e below (s₁.setTop (entryFrame m #[(.int p1)] 1)) t := fun t kt => by
      refine pj14 _ ?_
      show Steps p.tables e below (s₁.setTop (mkF m 14 #[.val (.int p1)] [])) _
      refine XS.iloadN X0.here hx rfl (hb hby d2_14) rfl ?_
      show Steps p.tables e below (s₁.setTop (mkF m 15 _ [(.int p1)])) _
      refine XS.bipush X0.here hx rfl (hb hby d2_15) ?_
      exact kt
    by_cases hc37 : p1 < (65 : Int32)
    · skip
      refine join28 ⟨fun t kt => by
        refine pre36 _ ?_
        show Steps p.tables e below (s₁.setTop (mkF m 17 #[.val (.int p1)] [(.int (65 : Int32)), (.int p1)])) _
        refine XS.icmpYes X0.here hx rfl (pc0 := 17) (pc' := 28) rfl (hb hby d2_17) rfl (tlt hc37).1 (by decide) (by decide) ?_
        exact kt, ?_⟩
      exact hq14.trans (by rw [g2_14, if_pos hc37] : g2_14 p1 = g2_28 p1)
    · skip
      have pre38 : ∀ t, Steps p.tables e below (s₁.setTop (mkF m 23 #[.val (.int p1)] [(.int (90 : Int32)), (.int p1)])) t → Steps p.tables e below (s₁.setTop (entryFrame m #[(.int p1)] 1)) t := fun t kt => by
        refine pre36 _ ?_
        show Steps p.tables e below (s₁.setTop (mkF m 17 #[.val (.int p1)] [(.int (65 : Int32)), (.int p1)])) _
        refine XS.icmpNo X0.here hx rfl (hb hby d2_17) rfl (flt hc37).1 ?_
        show Steps p.tables e below (s₁.setTop (mkF m 20 _ [])) _
        refine XS.iloadN X0.here hx rfl (hb hby d2_20) rfl ?_
        show Steps p.tables e below (s₁.setTop (mkF m 21 _ [(.int p1)])) _
        refine XS.bipush X0.here hx rfl (hb hby d2_21) ?_
        exact kt
      by_cases hc39 : (90 : Int32) < p1
      · skip
        refine join28 ⟨fun t kt => by
          refine pre38 _ ?_
          show Steps p.tables e below (s₁.setTop (mkF m 23 #[.val (.int p1)] [(.int (90 : Int32)), (.int p1)])) _
          refine XS.icmpYes X0.here hx rfl (pc0 := 23) (pc' := 28) rfl (hb hby d2_23) rfl (tlt hc39).2.2.1 (by decide) (by decide) ?_
          exact kt, ?_⟩
        exact hq14.trans (by rw [g2_14, if_neg hc37, if_pos hc39] : g2_14 p1 = g2_28 p1)
      · skip
        obtain ⟨fs, hr, hrun, hended, hW, hsame⟩ := X0.leave (v := some (.int (1 : Int32))) (fun h => by rw [Bd.returns] at h; cases h) (by first | exact BodyLoose.notSynchronized Bd | exact Body.notSynchronized Bd)
        refine ⟨_, _, pre38 _ ?_, hrun, hended, _, _, rfl, ?_, ⟨_, rfl⟩, hW, hsame.mono (by decide) (by decide)⟩
        · show Steps p.tables e below (s₁.setTop (mkF m 23 #[.val (.int p1)] [(.int (90 : Int32)), (.int p1)])) _
          refine XS.icmpNo X0.here hx rfl (hb hby d2_23) rfl (flt hc39).2.2.1 ?_
          show Steps p.tables e below (s₁.setTop (mkF m 26 _ [])) _
          refine XS.iconst X0.here hx rfl (hb hby d2_26) ?_
          show Steps p.tables e below (s₁.setTop (mkF m 27 #[.val (.int p1)] [(.int (1 : Int32))])) _
          exact retN X0 hx (t := .boolean) Bd.returns (by simp) (hb hby d2_27) hr
        · show Q2 Z p1 h0 n0 _ s₁.heap _
          rw [e0]
          exact ⟨congrArg (fun z => some (Value.int z)) (hq14.trans (by rw [g2_14, if_neg hc37, if_neg hc39] : g2_14 p1 = (1 : Int32))).symm, N0, rfl⟩
  have pre40 : ∀ t, Steps p.tables e below (s₁.setTop (mkF m 3 #[.val (.int p1)] [(.int (97 : Int32)), (.int p1)])) t → Steps p.tables e below (s₁.setTop (entryFrame m #[(.int p1)] 1)) t := fun t kt => by
    refine pre0 _ ?_
    show Steps p.tables e below (s₁.setTop (mkF m 0 #[.val (.int p1)] [])) _
    refine XS.iloadN X0.here hx rfl (hb hby d2_0) rfl ?_
    show Steps p.tables e below (s₁.setTop (mkF m 1 _ [(.int p1)])) _
    refine XS.bipush X0.here hx rfl (hb hby d2_1) ?_
    exact kt
  by_cases hc41 : p1 < (97 : Int32)
  · skip
    refine join14 ⟨fun t kt => by
      refine pre40 _ ?_
      show Steps p.tables e below (s₁.setTop (mkF m 3 #[.val (.int p1)] [(.int (97 : Int32)), (.int p1)])) _
      refine XS.icmpYes X0.here hx rfl (pc0 := 3) (pc' := 14) rfl (hb hby d2_3) rfl (tlt hc41).1 (by decide) (by decide) ?_
      exact kt, ?_⟩
    exact (by rw [f2, if_pos hc41] : f2 p1 = g2_14 p1)
  · skip
    have pre42 : ∀ t, Steps p.tables e below (s₁.setTop (mkF m 9 #[.val (.int p1)] [(.int (122 : Int32)), (.int p1)])) t → Steps p.tables e below (s₁.setTop (entryFrame m #[(.int p1)] 1)) t := fun t kt => by
      refine pre40 _ ?_
      show Steps p.tables e below (s₁.setTop (mkF m 3 #[.val (.int p1)] [(.int (97 : Int32)), (.int p1)])) _
      refine XS.icmpNo X0.here hx rfl (hb hby d2_3) rfl (flt hc41).1 ?_
      show Steps p.tables e below (s₁.setTop (mkF m 6 _ [])) _
      refine XS.iloadN X0.here hx rfl (hb hby d2_6) rfl ?_
      show Steps p.tables e below (s₁.setTop (mkF m 7 _ [(.int p1)])) _
      refine XS.bipush X0.here hx rfl (hb hby d2_7) ?_
      exact kt
    by_cases hc43 : (122 : Int32) < p1
    · skip
      refine join14 ⟨fun t kt => by
        refine pre42 _ ?_
        show Steps p.tables e below (s₁.setTop (mkF m 9 #[.val (.int p1)] [(.int (122 : Int32)), (.int p1)])) _
        refine XS.icmpYes X0.here hx rfl (pc0 := 9) (pc' := 14) rfl (hb hby d2_9) rfl (tlt hc43).2.2.1 (by decide) (by decide) ?_
        exact kt, ?_⟩
      exact (by rw [f2, if_neg hc41, if_pos hc43] : f2 p1 = g2_14 p1)
    · skip
      obtain ⟨fs, hr, hrun, hended, hW, hsame⟩ := X0.leave (v := some (.int (1 : Int32))) (fun h => by rw [Bd.returns] at h; cases h) (by first | exact BodyLoose.notSynchronized Bd | exact Body.notSynchronized Bd)
      refine ⟨_, _, pre42 _ ?_, hrun, hended, _, _, rfl, ?_, ⟨_, rfl⟩, hW, hsame.mono (by decide) (by decide)⟩
      · show Steps p.tables e below (s₁.setTop (mkF m 9 #[.val (.int p1)] [(.int (122 : Int32)), (.int p1)])) _
        refine XS.icmpNo X0.here hx rfl (hb hby d2_9) rfl (flt hc43).2.2.1 ?_
        show Steps p.tables e below (s₁.setTop (mkF m 12 _ [])) _
        refine XS.iconst X0.here hx rfl (hb hby d2_12) ?_
        show Steps p.tables e below (s₁.setTop (mkF m 13 #[.val (.int p1)] [(.int (1 : Int32))])) _
        exact retN X0 hx (t := .boolean) Bd.returns (by simp) (hb hby d2_13) hr
      · show Q2 Z p1 h0 n0 _ s₁.heap _
        rw [e0]
        exact ⟨congrArg (fun z => some (Value.int z)) (by rw [f2, if_neg hc41, if_neg hc43] : f2 p1 = (1 : Int32)).symm, N0, rfl⟩
theorem pn_0 : plainName "com/example/exception_mapper/exceptionmapper/HttpSyntaxInTokenPinLaw" = true := by first | (simp [plainName, overriddenIn]; done) | decide +kernel
theorem pd_0_0 : parseMethodDescriptor "(I)Z" = some ⟨[.int], some .boolean⟩ := by decide +kernel
theorem ef_0 (m : MethodId) (x0 : Int32) (x1 : Int32) : entryFrame m #[(.int x0), (.int x1)] maxLocals = mkF m 0 #[.val (.int x0), .val (.int x1), .unset] [] := by first | (simp [entryFrame, mkF, argsToLocals, Value.category, maxLocals]; done) | rfl
def f0 (p1 : Int32) (p2 : Int32) (w_IN_TOKEN : Addr) (cl_w_IN_TOKEN : Cell) : Int32 := (if (p2 &&& (1 : Int32)) = (0 : Int32) then (if (f1 (p1 &&& (2147483647 : Int32)) cl_w_IN_TOKEN) = (f2 (p1 &&& (2147483647 : Int32))) then (1 : Int32) else (0 : Int32)) else (if (f1 (p1 &&& (127 : Int32)) cl_w_IN_TOKEN) = (f2 (p1 &&& (127 : Int32))) then (1 : Int32) else (0 : Int32)))
def Q0 (Z : State) (p1 : Int32) (p2 : Int32) (w_IN_TOKEN : Addr) (cl_w_IN_TOKEN : Cell) (h0 : Heap) (n0 : Nat) (v : Option Value) (h : Heap) (L : List Loc) : Prop := v = some (.int (f0 p1 p2 w_IN_TOKEN cl_w_IN_TOKEN)) ∧ Fr n0 L
set_option maxRecDepth 65536 in
set_option maxHeartbeats 40000000 in
theorem rm0 (l : Launch) (Z : State) (a0 : Array Value) (hw : ∀ d ∈ tables_1, d.before a0 Z = true) (ws : List Jvm.Cond) (p1 : Int32) (p2 : Int32) (w_IN_TOKEN : Addr) (cl_w_IN_TOKEN : Cell) (h0 : Heap) (n0 : Nat) (Z0 : n0 ≤ h0.size) (S_IN_TOKEN : Sta Z h0 "com/example/exception_mapper/exceptionmapper/HttpSyntax" "IN_TOKEN" "[Z" (.ref w_IN_TOKEN)) (Tb_w_IN_TOKEN : Tab Z h0 w_IN_TOKEN cl_w_IN_TOKEN .boolean (128 : Int32)) :
    MetFree l x (head1 (Jvm.Cond.code x code maxLocals ret :: ws) room_1) (fun a U => a = #[(.int p1), (.int p2)] ∧ Z.Warmed39 U.vm ∧ U.heap = h0) (fun _ _ _ _ _ => True) (fun _ U o U' => ∃ v L, o = .returned v ∧ Q0 Z p1 p2 w_IN_TOKEN cl_w_IN_TOKEN h0 n0 v U'.heap L ∧ FrameEnd U o U' L room_1.cells room_1.slots) := by
  refine MetFree.of_bodySF (plainFor_of_name pn_0) hisR ?_
  intro p e s m args below meth c s₁ Bd hml0 hP hK
  obtain ⟨rfl, hZ, hh⟩ := hP
  have hx := Bd.exec
  have hby := Bd.bytes
  have hml : c.maxLocals = 3 := hml0
  have hown : s.vm.findClass "com/example/exception_mapper/exceptionmapper/HttpSyntaxInTokenPinLaw" = some m.cls := findClass_of_methodNamed Bd.named
  have hnm := (name_of_methodNamed Bd.named Bd.method).1
  have X0 : Stand p l e room_1 s m #[(.int p1), (.int p2)] below meth c s₁ [] 0 0 := Stand.of_body Bd
  have e0 : s₁.heap = h0 := by rw [← hh, Bd.state]; rfl
  have N0 := Fr.nil n0
  have pre0 : ∀ t, Steps p.tables e below (s₁.setTop (mkF m 0 #[.val (.int p1), .val (.int p2), .unset] [])) t → Steps p.tables e below (s₁.setTop (entryFrame m #[(.int p1), (.int p2)] maxLocals)) t := fun t k => castTop (ef_0 m p1 p2) k
  have pre3 : ∀ t, Steps p.tables e below (s₁.setTop (mkF m 3 #[.val (.int p1), .val (.int p2), .unset] [(.int (p2 &&& (1 : Int32)))])) t → Steps p.tables e below (s₁.setTop (entryFrame m #[(.int p1), (.int p2)] maxLocals)) t := fun t kt => by
    refine pre0 _ ?_
    show Steps p.tables e below (s₁.setTop (mkF m 0 #[.val (.int p1), .val (.int p2), .unset] [])) _
    refine XS.iloadN X0.here hx rfl (hb hby at_0) rfl ?_
    show Steps p.tables e below (s₁.setTop (mkF m 1 _ [(.int p2)])) _
    refine XS.iconst X0.here hx rfl (hb hby at_1) ?_
    show Steps p.tables e below (s₁.setTop (mkF m 2 _ [(.int (1 : Int32)), (.int p2)])) _
    refine XS.iand X0.here hx rfl (hb hby at_2) rfl ?_
    exact kt
  by_cases hc4 : (p2 &&& (1 : Int32)) = (0 : Int32)
  · skip
    obtain ⟨_, _, ⟨T5, L5, k5, n5⟩, -, X5, ⟨Lc5, hQ5, l5, y5, z5⟩, st5⟩ := Jvm.LawKit.callS X0 hx (y := (⟨"com/example/exception_mapper/exceptionmapper/HttpSyntax", "inToken", "(I)Z"⟩ : MethodName)) hown (mvT hZ (hw _ (List.mem_of_getElem? (i := 0) rfl))) (mvT hZ (hw _ (List.mem_of_getElem? (i := 1) rfl))) (mvT hZ (hw _ (List.mem_of_getElem? (i := 2) rfl))) (mvT hZ (hw _ (List.mem_of_getElem? (i := 3) rfl))) (by decide) (backOf (W := 0) (rm1 l Z a0 hw [] (p1 &&& (2147483647 : Int32)) w_IN_TOKEN cl_w_IN_TOKEN h0 n0 Z0 (by first | exact own_m7 p1 | exact own_m31 p1) S_IN_TOKEN Tb_w_IN_TOKEN) hZ (hw _ (List.mem_of_getElem? (i := 3) rfl)) (hw _ (List.mem_of_getElem? (i := 2) rfl)) (by decide) (by decide)) (g := (mkF m 19 #[.val (.int p1), .val (.int p2), .val (.int (p1 &&& (2147483647 : Int32)))] [(.int (p1 &&& (2147483647 : Int32)))])) rfl (by rw [hml]; rfl) (argsL := [(.int (p1 &&& (2147483647 : Int32)))]) (rest := []) (lenOf pd_0_0 rfl) rfl (by show 2 * 0 + _ ≤ _; exact Nat.le_of_eq rfl) (hb hby at_19) (fun _ _ => ⟨rfl, e0, (by decide : 0 + 0 ≤ _), (by decide : 0 + 0 ≤ _)⟩)
    dsimp only [Pt.U, Pt.locs, Pt.cells, Pt.slots] at X5 l5 y5 z5 st5 hQ5
    subst l5 y5 z5
    obtain ⟨rfl, N5q, e5⟩ := hQ5
    have N5 := Fr.app N0 N5q
    obtain ⟨_, _, ⟨T6, L6, k6, n6⟩, -, X6, ⟨Lc6, hQ6, l6, y6, z6⟩, st6⟩ := Jvm.LawKit.callS X5 hx (y := (⟨"com/example/exception_mapper/exceptionmapper/HttpSyntaxInTokenPinLaw", "expected", "(I)Z"⟩ : MethodName)) hown (mvT hZ (hw _ (List.mem_of_getElem? (i := 6) rfl))) (mvT hZ (hw _ (List.mem_of_getElem? (i := 7) rfl))) (mvT hZ (hw _ (List.mem_of_getElem? (i := 8) rfl))) (mvT hZ (hw _ (List.mem_of_getElem? (i := 9) rfl))) (by decide) (backOf (W := 1) (rm2 l Z a0 hw [] (p1 &&& (2147483647 : Int32)) h0 n0 Z0 ) hZ (hw _ (List.mem_of_getElem? (i := 9) rfl)) (hw _ (List.mem_of_getElem? (i := 8) rfl)) (by decide) (by decide)) (g := (mkF m 23 #[.val (.int p1), .val (.int p2), .val (.int (p1 &&& (2147483647 : Int32)))] [(.int (p1 &&& (2147483647 : Int32))), (.int (f1 (p1 &&& (2147483647 : Int32)) cl_w_IN_TOKEN))])) rfl (by rw [hml]; rfl) (argsL := [(.int (p1 &&& (2147483647 : Int32)))]) (rest := [(.int (f1 (p1 &&& (2147483647 : Int32)) cl_w_IN_TOKEN))]) (lenOf pd_0_0 rfl) rfl (by show 2 * 0 + _ ≤ _; exact Nat.le_of_eq rfl) (hb hby at_23) (fun _ _ => ⟨rfl, e5, (by decide : 0 + 0 ≤ _), (by decide : 0 + 0 ≤ _)⟩)
    dsimp only [Pt.U, Pt.locs, Pt.cells, Pt.slots] at X6 l6 y6 z6 st6 hQ6
    subst l6 y6 z6
    obtain ⟨rfl, N6q, e6⟩ := hQ6
    have N6 := Fr.app N5 N6q
    have pre7 : ∀ t, Steps p.tables e below (T6.setTop (mkF m 26 #[.val (.int p1), .val (.int p2), .val (.int (p1 &&& (2147483647 : Int32)))] [(.int (f2 (p1 &&& (2147483647 : Int32)))), (.int (f1 (p1 &&& (2147483647 : Int32)) cl_w_IN_TOKEN))])) t → Steps p.tables e below (s₁.setTop (entryFrame m #[(.int p1), (.int p2)] maxLocals)) t := fun t kt => by
      refine pre3 _ ?_
      show Steps p.tables e below (s₁.setTop (mkF m 3 #[.val (.int p1), .val (.int p2), .unset] [(.int (p2 &&& (1 : Int32)))])) _
      refine XS.ifYes X0.here hx rfl (pc0 := 3) (pc' := 13) rfl (hb hby at_3) rfl ((if0 _ _).trans (teq hc4).1) (by decide) (by decide) ?_
      show Steps p.tables e below (s₁.setTop (mkF m 13 _ [])) _
      refine XS.iloadN X0.here hx rfl (hb hby at_13) rfl ?_
      show Steps p.tables e below (s₁.setTop (mkF m 14 _ [(.int p1)])) _
      refine X0.ldcInt hx hown (mvT hZ (hw _ (List.mem_of_getElem? (i := 10) rfl))) (g := (mkF m 14 #[.val (.int p1), .val (.int p2), .unset] [(.int p1)])) rfl (hb hby at_14) _ ?_
      show Steps p.tables e below (s₁.setTop (mkF m 16 _ [(.int (2147483647 : Int32)), (.int p1)])) _
      refine XS.iand X0.here hx rfl (hb hby at_16) rfl ?_
      show Steps p.tables e below (s₁.setTop (mkF m 17 _ [(.int (p1 &&& (2147483647 : Int32)))])) _
      refine XS.istoreN X0.here hx rfl (hb hby at_17) rfl (l' := #[.val (.int p1), .val (.int p2), .val (.int (p1 &&& (2147483647 : Int32)))]) rfl ?_
      show Steps p.tables e below (s₁.setTop (mkF m 18 _ [])) _
      refine XS.iloadN X0.here hx rfl (hb hby at_18) rfl ?_
      show Steps p.tables e below (s₁.setTop (mkF m 19 _ [(.int (p1 &&& (2147483647 : Int32)))])) _
      refine st5 _ ?_
      show Steps p.tables e below (T5.setTop (mkF m 22 _ [(.int (f1 (p1 &&& (2147483647 : Int32)) cl_w_IN_TOKEN))])) _
      refine XS.iloadN X5.here hx rfl (hb hby at_22) rfl ?_
      show Steps p.tables e below (T5.setTop (mkF m 23 _ [(.int (p1 &&& (2147483647 : Int32))), (.int (f1 (p1 &&& (2147483647 : Int32)) cl_w_IN_TOKEN))])) _
      refine st6 _ ?_
      exact kt
    by_cases hc8 : (f1 (p1 &&& (2147483647 : Int32)) cl_w_IN_TOKEN) = (f2 (p1 &&& (2147483647 : Int32)))
    · skip
      obtain ⟨fs, hr, hrun, hended, hW, hsame⟩ := X6.leave (v := some (.int (1 : Int32))) (fun h => by rw [Bd.returns] at h; cases h) (by first | exact BodyLoose.notSynchronized Bd | exact Body.notSynchronized Bd)
      refine ⟨_, _, pre7 _ ?_, hrun, hended, _, _, rfl, ?_, ⟨_, rfl⟩, hW, hsame.mono (by decide) (by decide)⟩
      · show Steps p.tables e below (T6.setTop (mkF m 26 #[.val (.int p1), .val (.int p2), .val (.int (p1 &&& (2147483647 : Int32)))] [(.int (f2 (p1 &&& (2147483647 : Int32)))), (.int (f1 (p1 &&& (2147483647 : Int32)) cl_w_IN_TOKEN))])) _
        refine XS.icmpNo X6.here hx rfl (hb hby at_26) rfl (teq hc8).2 ?_
        show Steps p.tables e below (T6.setTop (mkF m 29 _ [])) _
        refine XS.iconst X6.here hx rfl (hb hby at_29) ?_
        show Steps p.tables e below (T6.setTop (mkF m 30 _ [(.int (1 : Int32))])) _
        refine XS.goto X6.here hx rfl (pc0 := 30) (pc' := 34) rfl (hb hby at_30) (by decide) (by decide) ?_
        show Steps p.tables e below (T6.setTop (mkF m 34 #[.val (.int p1), .val (.int p2), .val (.int (p1 &&& (2147483647 : Int32)))] [(.int (1 : Int32))])) _
        exact retN X6 hx (t := .boolean) Bd.returns (by simp) (hb hby at_34) hr
      · show Q0 Z p1 p2 w_IN_TOKEN cl_w_IN_TOKEN h0 n0 _ T6.heap _
        rw [e6]
        exact ⟨congrArg (fun z => some (Value.int z)) (by rw [f0, if_pos hc4, if_pos hc8] : f0 p1 p2 w_IN_TOKEN cl_w_IN_TOKEN = (1 : Int32)).symm, N6⟩
    · skip
      obtain ⟨fs, hr, hrun, hended, hW, hsame⟩ := X6.leave (v := some (.int (0 : Int32))) (fun h => by rw [Bd.returns] at h; cases h) (by first | exact BodyLoose.notSynchronized Bd | exact Body.notSynchronized Bd)
      refine ⟨_, _, pre7 _ ?_, hrun, hended, _, _, rfl, ?_, ⟨_, rfl⟩, hW, hsame.mono (by decide) (by decide)⟩
      · show Steps p.tables e below (T6.setTop (mkF m 26 #[.val (.int p1), .val (.int p2), .val (.int (p1 &&& (2147483647 : Int32)))] [(.int (f2 (p1 &&& (2147483647 : Int32)))), (.int (f1 (p1 &&& (2147483647 : Int32)) cl_w_IN_TOKEN))])) _
        refine XS.icmpYes X6.here hx rfl (pc0 := 26) (pc' := 33) rfl (hb hby at_26) rfl (feq hc8).2 (by decide) (by decide) ?_
        show Steps p.tables e below (T6.setTop (mkF m 33 _ [])) _
        refine XS.iconst X6.here hx rfl (hb hby at_33) ?_
        show Steps p.tables e below (T6.setTop (mkF m 34 #[.val (.int p1), .val (.int p2), .val (.int (p1 &&& (2147483647 : Int32)))] [(.int (0 : Int32))])) _
        exact retN X6 hx (t := .boolean) Bd.returns (by simp) (hb hby at_34) hr
      · show Q0 Z p1 p2 w_IN_TOKEN cl_w_IN_TOKEN h0 n0 _ T6.heap _
        rw [e6]
        exact ⟨congrArg (fun z => some (Value.int z)) (by rw [f0, if_pos hc4, if_neg hc8] : f0 p1 p2 w_IN_TOKEN cl_w_IN_TOKEN = (0 : Int32)).symm, N6⟩
  · skip
    obtain ⟨_, _, ⟨T9, L9, k9, n9⟩, -, X9, ⟨Lc9, hQ9, l9, y9, z9⟩, st9⟩ := Jvm.LawKit.callS X0 hx (y := (⟨"com/example/exception_mapper/exceptionmapper/HttpSyntax", "inToken", "(I)Z"⟩ : MethodName)) hown (mvT hZ (hw _ (List.mem_of_getElem? (i := 0) rfl))) (mvT hZ (hw _ (List.mem_of_getElem? (i := 1) rfl))) (mvT hZ (hw _ (List.mem_of_getElem? (i := 2) rfl))) (mvT hZ (hw _ (List.mem_of_getElem? (i := 3) rfl))) (by decide) (backOf (W := 0) (rm1 l Z a0 hw [] (p1 &&& (127 : Int32)) w_IN_TOKEN cl_w_IN_TOKEN h0 n0 Z0 (by first | exact own_m7 p1 | exact own_m31 p1) S_IN_TOKEN Tb_w_IN_TOKEN) hZ (hw _ (List.mem_of_getElem? (i := 3) rfl)) (hw _ (List.mem_of_getElem? (i := 2) rfl)) (by decide) (by decide)) (g := (mkF m 19 #[.val (.int p1), .val (.int p2), .val (.int (p1 &&& (127 : Int32)))] [(.int (p1 &&& (127 : Int32)))])) rfl (by rw [hml]; rfl) (argsL := [(.int (p1 &&& (127 : Int32)))]) (rest := []) (lenOf pd_0_0 rfl) rfl (by show 2 * 0 + _ ≤ _; exact Nat.le_of_eq rfl) (hb hby at_19) (fun _ _ => ⟨rfl, e0, (by decide : 0 + 0 ≤ _), (by decide : 0 + 0 ≤ _)⟩)
    dsimp only [Pt.U, Pt.locs, Pt.cells, Pt.slots] at X9 l9 y9 z9 st9 hQ9
    subst l9 y9 z9
    obtain ⟨rfl, N9q, e9⟩ := hQ9
    have N9 := Fr.app N0 N9q
    obtain ⟨_, _, ⟨T10, L10, k10, n10⟩, -, X10, ⟨Lc10, hQ10, l10, y10, z10⟩, st10⟩ := Jvm.LawKit.callS X9 hx (y := (⟨"com/example/exception_mapper/exceptionmapper/HttpSyntaxInTokenPinLaw", "expected", "(I)Z"⟩ : MethodName)) hown (mvT hZ (hw _ (List.mem_of_getElem? (i := 6) rfl))) (mvT hZ (hw _ (List.mem_of_getElem? (i := 7) rfl))) (mvT hZ (hw _ (List.mem_of_getElem? (i := 8) rfl))) (mvT hZ (hw _ (List.mem_of_getElem? (i := 9) rfl))) (by decide) (backOf (W := 1) (rm2 l Z a0 hw [] (p1 &&& (127 : Int32)) h0 n0 Z0 ) hZ (hw _ (List.mem_of_getElem? (i := 9) rfl)) (hw _ (List.mem_of_getElem? (i := 8) rfl)) (by decide) (by decide)) (g := (mkF m 23 #[.val (.int p1), .val (.int p2), .val (.int (p1 &&& (127 : Int32)))] [(.int (p1 &&& (127 : Int32))), (.int (f1 (p1 &&& (127 : Int32)) cl_w_IN_TOKEN))])) rfl (by rw [hml]; rfl) (argsL := [(.int (p1 &&& (127 : Int32)))]) (rest := [(.int (f1 (p1 &&& (127 : Int32)) cl_w_IN_TOKEN))]) (lenOf pd_0_0 rfl) rfl (by show 2 * 0 + _ ≤ _; exact Nat.le_of_eq rfl) (hb hby at_23) (fun _ _ => ⟨rfl, e9, (by decide : 0 + 0 ≤ _), (by decide : 0 + 0 ≤ _)⟩)
    dsimp only [Pt.U, Pt.locs, Pt.cells, Pt.slots] at X10 l10 y10 z10 st10 hQ10
    subst l10 y10 z10
    obtain ⟨rfl, N10q, e10⟩ := hQ10
    have N10 := Fr.app N9 N10q
    have pre11 : ∀ t, Steps p.tables e below (T10.setTop (mkF m 26 #[.val (.int p1), .val (.int p2), .val (.int (p1 &&& (127 : Int32)))] [(.int (f2 (p1 &&& (127 : Int32)))), (.int (f1 (p1 &&& (127 : Int32)) cl_w_IN_TOKEN))])) t → Steps p.tables e below (s₁.setTop (entryFrame m #[(.int p1), (.int p2)] maxLocals)) t := fun t kt => by
      refine pre3 _ ?_
      show Steps p.tables e below (s₁.setTop (mkF m 3 #[.val (.int p1), .val (.int p2), .unset] [(.int (p2 &&& (1 : Int32)))])) _
      refine XS.ifNo X0.here hx rfl (hb hby at_3) rfl ((if0 _ _).trans (feq hc4).1) ?_
      show Steps p.tables e below (s₁.setTop (mkF m 6 _ [])) _
      refine XS.iloadN X0.here hx rfl (hb hby at_6) rfl ?_
      show Steps p.tables e below (s₁.setTop (mkF m 7 _ [(.int p1)])) _
      refine XS.bipush X0.here hx rfl (hb hby at_7) ?_
      show Steps p.tables e below (s₁.setTop (mkF m 9 _ [(.int (127 : Int32)), (.int p1)])) _
      refine XS.iand X0.here hx rfl (hb hby at_9) rfl ?_
      show Steps p.tables e below (s₁.setTop (mkF m 10 _ [(.int (p1 &&& (127 : Int32)))])) _
      refine XS.goto X0.here hx rfl (pc0 := 10) (pc' := 17) rfl (hb hby at_10) (by decide) (by decide) ?_
      show Steps p.tables e below (s₁.setTop (mkF m 17 _ [(.int (p1 &&& (127 : Int32)))])) _
      refine XS.istoreN X0.here hx rfl (hb hby at_17) rfl (l' := #[.val (.int p1), .val (.int p2), .val (.int (p1 &&& (127 : Int32)))]) rfl ?_
      show Steps p.tables e below (s₁.setTop (mkF m 18 _ [])) _
      refine XS.iloadN X0.here hx rfl (hb hby at_18) rfl ?_
      show Steps p.tables e below (s₁.setTop (mkF m 19 _ [(.int (p1 &&& (127 : Int32)))])) _
      refine st9 _ ?_
      show Steps p.tables e below (T9.setTop (mkF m 22 _ [(.int (f1 (p1 &&& (127 : Int32)) cl_w_IN_TOKEN))])) _
      refine XS.iloadN X9.here hx rfl (hb hby at_22) rfl ?_
      show Steps p.tables e below (T9.setTop (mkF m 23 _ [(.int (p1 &&& (127 : Int32))), (.int (f1 (p1 &&& (127 : Int32)) cl_w_IN_TOKEN))])) _
      refine st10 _ ?_
      exact kt
    by_cases hc12 : (f1 (p1 &&& (127 : Int32)) cl_w_IN_TOKEN) = (f2 (p1 &&& (127 : Int32)))
    · skip
      obtain ⟨fs, hr, hrun, hended, hW, hsame⟩ := X10.leave (v := some (.int (1 : Int32))) (fun h => by rw [Bd.returns] at h; cases h) (by first | exact BodyLoose.notSynchronized Bd | exact Body.notSynchronized Bd)
      refine ⟨_, _, pre11 _ ?_, hrun, hended, _, _, rfl, ?_, ⟨_, rfl⟩, hW, hsame.mono (by decide) (by decide)⟩
      · show Steps p.tables e below (T10.setTop (mkF m 26 #[.val (.int p1), .val (.int p2), .val (.int (p1 &&& (127 : Int32)))] [(.int (f2 (p1 &&& (127 : Int32)))), (.int (f1 (p1 &&& (127 : Int32)) cl_w_IN_TOKEN))])) _
        refine XS.icmpNo X10.here hx rfl (hb hby at_26) rfl (teq hc12).2 ?_
        show Steps p.tables e below (T10.setTop (mkF m 29 _ [])) _
        refine XS.iconst X10.here hx rfl (hb hby at_29) ?_
        show Steps p.tables e below (T10.setTop (mkF m 30 _ [(.int (1 : Int32))])) _
        refine XS.goto X10.here hx rfl (pc0 := 30) (pc' := 34) rfl (hb hby at_30) (by decide) (by decide) ?_
        show Steps p.tables e below (T10.setTop (mkF m 34 #[.val (.int p1), .val (.int p2), .val (.int (p1 &&& (127 : Int32)))] [(.int (1 : Int32))])) _
        exact retN X10 hx (t := .boolean) Bd.returns (by simp) (hb hby at_34) hr
      · show Q0 Z p1 p2 w_IN_TOKEN cl_w_IN_TOKEN h0 n0 _ T10.heap _
        rw [e10]
        exact ⟨congrArg (fun z => some (Value.int z)) (by rw [f0, if_neg hc4, if_pos hc12] : f0 p1 p2 w_IN_TOKEN cl_w_IN_TOKEN = (1 : Int32)).symm, N10⟩
    · skip
      obtain ⟨fs, hr, hrun, hended, hW, hsame⟩ := X10.leave (v := some (.int (0 : Int32))) (fun h => by rw [Bd.returns] at h; cases h) (by first | exact BodyLoose.notSynchronized Bd | exact Body.notSynchronized Bd)
      refine ⟨_, _, pre11 _ ?_, hrun, hended, _, _, rfl, ?_, ⟨_, rfl⟩, hW, hsame.mono (by decide) (by decide)⟩
      · show Steps p.tables e below (T10.setTop (mkF m 26 #[.val (.int p1), .val (.int p2), .val (.int (p1 &&& (127 : Int32)))] [(.int (f2 (p1 &&& (127 : Int32)))), (.int (f1 (p1 &&& (127 : Int32)) cl_w_IN_TOKEN))])) _
        refine XS.icmpYes X10.here hx rfl (pc0 := 26) (pc' := 33) rfl (hb hby at_26) rfl (feq hc12).2 (by decide) (by decide) ?_
        show Steps p.tables e below (T10.setTop (mkF m 33 _ [])) _
        refine XS.iconst X10.here hx rfl (hb hby at_33) ?_
        show Steps p.tables e below (T10.setTop (mkF m 34 #[.val (.int p1), .val (.int p2), .val (.int (p1 &&& (127 : Int32)))] [(.int (0 : Int32))])) _
        exact retN X10 hx (t := .boolean) Bd.returns (by simp) (hb hby at_34) hr
      · show Q0 Z p1 p2 w_IN_TOKEN cl_w_IN_TOKEN h0 n0 _ T10.heap _
        rw [e10]
        exact ⟨congrArg (fun z => some (Value.int z)) (by rw [f0, if_neg hc4, if_neg hc12] : f0 p1 p2 w_IN_TOKEN cl_w_IN_TOKEN = (0 : Int32)).symm, N10⟩
theorem own_r2 : ∀ n : Fin 128, 0 ≤ n.val → n.val < 33 → f2 (n.val.toInt32) = (0 : Int32) := by decide +kernel
theorem own_r5 : ∀ n : Fin 128, 35 ≤ n.val → n.val < 40 → f2 (n.val.toInt32) = (1 : Int32) := by decide +kernel
theorem own_r14 : ∀ n : Fin 128, 48 ≤ n.val → n.val < 58 → f2 (n.val.toInt32) = (1 : Int32) := by decide +kernel
theorem own_r15 : ∀ n : Fin 128, 58 ≤ n.val → n.val < 65 → f2 (n.val.toInt32) = (0 : Int32) := by decide +kernel
theorem own_r16 : ∀ n : Fin 128, 65 ≤ n.val → n.val < 91 → f2 (n.val.toInt32) = (1 : Int32) := by decide +kernel
theorem own_r20 : ∀ n : Fin 128, 94 ≤ n.val → n.val < 123 → f2 (n.val.toInt32) = (1 : Int32) := by decide +kernel
theorem own_bite {c : Prop} [Decidable c] {a b : Int32} (ha : a = 0 ∨ a = 1) (hb : b = 0 ∨ b = 1) : (if c then a else b) = 0 ∨ (if c then a else b) = 1 := by
  by_cases h : c
  · rw [if_pos h]; exact ha
  · rw [if_neg h]; exact hb
theorem own_b42 (c : Int32) : g2_42 c = 0 ∨ g2_42 c = 1 := by
  unfold g2_42
  exact own_bite (Or.inr rfl) (own_bite (Or.inr rfl) (own_bite (Or.inr rfl) (own_bite (Or.inr rfl) (own_bite (Or.inr rfl) (own_bite (Or.inr rfl) (own_bite (Or.inr rfl) (own_bite (Or.inr rfl) (own_bite (Or.inr rfl) (own_bite (Or.inr rfl) (own_bite (Or.inr rfl) (own_bite (Or.inr rfl) (own_bite (Or.inr rfl) (own_bite (Or.inr rfl) (own_bite (Or.inr rfl) (Or.inl rfl)))))))))))))))
theorem own_b28 (c : Int32) : g2_28 c = 0 ∨ g2_28 c = 1 := by
  unfold g2_28
  exact own_bite (own_b42 c) (own_bite (own_b42 c) (Or.inr rfl))
theorem own_b14 (c : Int32) : g2_14 c = 0 ∨ g2_14 c = 1 := by
  unfold g2_14
  exact own_bite (own_b28 c) (own_bite (own_b28 c) (Or.inr rfl))
theorem own_bit (c : Int32) : f2 c = 0 ∨ f2 c = 1 := by
  unfold f2
  exact own_bite (own_b14 c) (own_bite (own_b14 c) (Or.inr rfl))
theorem own_far (c : Int32) (h : ¬ c < (128 : Int32)) : f2 c = 0 := by
  have k (d : Int32) (hd : d.toInt < 128) : ¬ c = d := fun q => by rw [q, Int32.lt_iff_toInt_lt] at h; exact h hd
  have l (d : Int32) (hd : d.toInt < 128) : ¬ c < d := fun q => by
    rw [Int32.lt_iff_toInt_lt] at h q
    have : (128 : Int32).toInt = 128 := rfl
    omega
  have g (d : Int32) (hd : d.toInt < 128) : d < c := by
    rw [Int32.lt_iff_toInt_lt] at h ⊢
    have : (128 : Int32).toInt = 128 := rfl
    omega
  unfold f2 g2_14 g2_28 g2_42
  rw [if_neg (l 97 (by decide)), if_pos (g 122 (by decide)), if_neg (l 65 (by decide)), if_pos (g 90 (by decide)), if_neg (l 48 (by decide)), if_pos (g 57 (by decide))]
  rw [if_neg (k 33 (by decide)), if_neg (k 35 (by decide)), if_neg (k 36 (by decide)), if_neg (k 37 (by decide)), if_neg (k 38 (by decide)), if_neg (k 39 (by decide)), if_neg (k 42 (by decide)), if_neg (k 43 (by decide)), if_neg (k 45 (by decide)), if_neg (k 46 (by decide)), if_neg (k 94 (by decide)), if_neg (k 95 (by decide)), if_neg (k 96 (by decide)), if_neg (k 124 (by decide)), if_neg (k 126 (by decide))]
theorem own_of (c : Int32) (n : Nat) (h : c.toInt = n) : c = n.toInt32 := by
  have h1 := rng32 c
  apply Int32.toInt_inj.mp
  rw [h, len_toInt (by omega)]
theorem own_eq (c : Int32) (cl : Cell) (h0 : 0 ≤ c.toInt) (hv : ∀ n : Nat, n < 128 → atv cl n.toInt32 = f2 n.toInt32) : f1 c cl = f2 c := by
  unfold f1
  by_cases h : c < (128 : Int32)
  · rw [if_pos h]
    rw [Int32.lt_iff_toInt_lt, show (128 : Int32).toInt = 128 from rfl] at h
    obtain ⟨n, hn⟩ := Int.eq_ofNat_of_zero_le h0
    have e := own_of c n hn
    have e2 : atv cl c = f2 c := by rw [e]; exact hv n (by omega)
    rw [e2]
    rcases own_bit c with q | q
    · rw [q]; rfl
    · rw [q]; rfl
  · rw [if_neg h, own_far c h]
theorem own_plain (p1 p2 : Int32) (w : Addr) (cl : Cell) (hv : ∀ n : Nat, n < 128 → atv cl n.toInt32 = f2 n.toInt32) : f0 p1 p2 w cl = 1 := by
  have h1 := c_mask p1 2147483647 31 (by decide) (by decide)
  have h2 := c_mask p1 127 7 (by decide) (by decide)
  unfold f0
  rw [if_pos (own_eq _ cl (by omega) hv), if_pos (own_eq _ cl (by omega) hv)]
  split <;> rfl
set_option maxRecDepth 65536 in
set_option maxHeartbeats 40000000 in
theorem comes_1 {Post : Tables → Env → Array Value → State → Outcome → State → Prop} (hpost : ∀ tb e args s v u, (limb_1_1.after args s (.returned v) u = true ∧ limb_1_2.after args s (.returned v) u = true ∧ True) → FrameEnd s (.returned v) u (Jvm.fieldLocs frame_1_writes args s ++ Jvm.arrayLocs frame_1_arrays args s ++ Jvm.staticLocs frame_1_statics s) 0 0 → Post tb e args s (.returned v) u) :
    ArmFor flags0 classFile x code maxLocals ret World_1 tables_1 room_1 Calls_1 rest_1 Pre_1 Post := by
  intro l hfl _ _ p e ha hc hk s m args below hf hA hF happ hP
  obtain ⟨hcalls, hrest, hpre⟩ := hP
  obtain ⟨-, -, -, hnamed, -, -, -, hat⟩ := (Spec.applies_iff hf).mp happ
  obtain ⟨hg, hn⟩ := and_e (Cond.before_iff.mp (show (Jvm.Cond.and given_1 narrow_1).before args s = true from hpre))
  obtain ⟨gc, hg⟩ := and_e hg
  obtain ⟨gi0, hg⟩ := and_e hg
  obtain ⟨w0, w1, rfl⟩ : ∃ w0 w1 : Value, args = #[w0, w1] := by
    have hs : args.size = 2 := by simpa [Cond.value, given_1] using gc
    obtain ⟨L⟩ := args
    match L, hs with
    | [w0, w1], _ => exact ⟨w0, w1, rfl⟩
  have hw := fun d (hd : d ∈ tables_1) => atoms_spec (ws := Jvm.Cond.code x code maxLocals ret :: tables_1) hat d (List.mem_cons_of_mem _ hd)
  obtain ⟨i0, ei0⟩ := is_v gi0
  obtain rfl : w0 = (.int i0) := Option.some.inj ei0
  obtain ⟨i1, ei1⟩ := is_v hg
  obtain rfl : w1 = (.int i1) := Option.some.inj ei1
  obtain ⟨nw0, hn⟩ := and_e hn
  obtain ⟨nw1, hn⟩ := and_e hn
  obtain ⟨nw2, hn⟩ := and_e hn
  obtain ⟨nw3, hn⟩ := and_e hn
  obtain ⟨nw4, hn⟩ := and_e hn
  obtain ⟨nw5, hn⟩ := and_e hn
  obtain ⟨nw6, hn⟩ := and_e hn
  obtain ⟨nw7, hn⟩ := and_e hn
  obtain ⟨nw8, hn⟩ := and_e hn
  obtain ⟨nw9, hn⟩ := and_e hn
  obtain ⟨nw10, hn⟩ := and_e hn
  obtain ⟨nw11, hn⟩ := and_e hn
  obtain ⟨nw12, hn⟩ := and_e hn
  obtain ⟨nw13, hn⟩ := and_e hn
  obtain ⟨nw14, hn⟩ := and_e hn
  obtain ⟨nw15, hn⟩ := and_e hn
  obtain ⟨nw16, hn⟩ := and_e hn
  obtain ⟨nw17, hn⟩ := and_e hn
  obtain ⟨nw18, hn⟩ := and_e hn
  obtain ⟨nw19, hn⟩ := and_e hn
  obtain ⟨nw20, hn⟩ := and_e hn
  obtain ⟨nw21, hn⟩ := and_e hn
  obtain ⟨nw22, hn⟩ := and_e hn
  obtain ⟨nw23, hn⟩ := and_e hn
  obtain ⟨nw24, hn⟩ := and_e hn
  have nw25 := hn
  obtain ⟨w_IN_TOKEN, ev⟩ := arr_v nw0
  have evi : ∀ idx, (Jvm.Term.static "com/example/exception_mapper/exceptionmapper/HttpSyntax" "IN_TOKEN" "[Z").eval #[(.int i0), (.int i1)] s none idx s = some (.ref w_IN_TOKEN) := fun idx => ev
  have S_IN_TOKEN := Sta.start ev (Or.inr ⟨(hw _ (List.mem_of_getElem? (i := 2) rfl)), (hw _ (List.mem_of_getElem? (i := 5) rfl))⟩)
  obtain ⟨cl_w_IN_TOKEN, AR⟩ := Arr.start ev nw0
  have hAt := Jvm.Free.IntBox.arrayAt_of AR.1 AR.2.1 AR.2.2
  obtain ⟨hsz, hsz2⟩ := Jvm.Free.IntBox.length_fwd (Cond.before_iff.mpr nw1) ev AR.1 AR.2.1 AR.2.2
  have hfit : Fit s := fun {y c} hc i hi => by
    obtain ⟨ha, rfl⟩ := Array.getElem?_eq_some_iff.mp hc
    have q := List.all_eq_true.mp ((Array.all_eq_true_iff_forall_mem.mp hF) _ (Array.getElem_mem ha)) i (List.mem_range.mpr hi)
    simpa [Array.getElem?_eq_getElem hi] using q
  have Tb_w_IN_TOKEN := Tab.start hfit AR (Or.inr (Or.inl rfl)) hsz hsz2 (by decide)
  have hsize : cl_w_IN_TOKEN.slots.size = 128 := by rw [Tb_w_IN_TOKEN.2.1]; rfl
  have v2 := own_rg0 evi hAt (hi := 33) (v := 0) nw2 hsize (by decide)
  have v3 : atv cl_w_IN_TOKEN (33 : Int32) = (1 : Int32) := own_el evi hAt (by decide) [] (Term.int_eval _) nw3
  have v4 : atv cl_w_IN_TOKEN (34 : Int32) = (0 : Int32) := own_el evi hAt (by decide) [] (Term.int_eval _) nw4
  have v5 := own_rg evi hAt (lo := 35) (hi := 40) (v := 1) nw5 hsize (by decide) (by decide)
  have v6 : atv cl_w_IN_TOKEN (40 : Int32) = (0 : Int32) := own_el evi hAt (by decide) [] (Term.int_eval _) nw6
  have v7 : atv cl_w_IN_TOKEN (41 : Int32) = (0 : Int32) := own_el evi hAt (by decide) [] (Term.int_eval _) nw7
  have v8 : atv cl_w_IN_TOKEN (42 : Int32) = (1 : Int32) := own_el evi hAt (by decide) [] (Term.int_eval _) nw8
  have v9 : atv cl_w_IN_TOKEN (43 : Int32) = (1 : Int32) := own_el evi hAt (by decide) [] (Term.int_eval _) nw9
  have v10 : atv cl_w_IN_TOKEN (44 : Int32) = (0 : Int32) := own_el evi hAt (by decide) [] (Term.int_eval _) nw10
  have v11 : atv cl_w_IN_TOKEN (45 : Int32) = (1 : Int32) := own_el evi hAt (by decide) [] (Term.int_eval _) nw11
  have v12 : atv cl_w_IN_TOKEN (46 : Int32) = (1 : Int32) := own_el evi hAt (by decide) [] (Term.int_eval _) nw12
  have v13 : atv cl_w_IN_TOKEN (47 : Int32) = (0 : Int32) := own_el evi hAt (by decide) [] (Term.int_eval _) nw13
  have v14 := own_rg evi hAt (lo := 48) (hi := 58) (v := 1) nw14 hsize (by decide) (by decide)
  have v15 := own_rg evi hAt (lo := 58) (hi := 65) (v := 0) nw15 hsize (by decide) (by decide)
  have v16 := own_rg evi hAt (lo := 65) (hi := 91) (v := 1) nw16 hsize (by decide) (by decide)
  have v17 : atv cl_w_IN_TOKEN (91 : Int32) = (0 : Int32) := own_el evi hAt (by decide) [] (Term.int_eval _) nw17
  have v18 : atv cl_w_IN_TOKEN (92 : Int32) = (0 : Int32) := own_el evi hAt (by decide) [] (Term.int_eval _) nw18
  have v19 : atv cl_w_IN_TOKEN (93 : Int32) = (0 : Int32) := own_el evi hAt (by decide) [] (Term.int_eval _) nw19
  have v20 := own_rg evi hAt (lo := 94) (hi := 123) (v := 1) nw20 hsize (by decide) (by decide)
  have v21 : atv cl_w_IN_TOKEN (123 : Int32) = (0 : Int32) := own_el evi hAt (by decide) [] (Term.int_eval _) nw21
  have v22 : atv cl_w_IN_TOKEN (124 : Int32) = (1 : Int32) := own_el evi hAt (by decide) [] (Term.int_eval _) nw22
  have v23 : atv cl_w_IN_TOKEN (125 : Int32) = (0 : Int32) := own_el evi hAt (by decide) [] (Term.int_eval _) nw23
  have v24 : atv cl_w_IN_TOKEN (126 : Int32) = (1 : Int32) := own_el evi hAt (by decide) [] (Term.int_eval _) nw24
  have v25 : atv cl_w_IN_TOKEN (127 : Int32) = (0 : Int32) := own_el evi hAt (by decide) [] (Term.int_eval _) nw25
  have hv : ∀ n : Nat, n < 128 → atv cl_w_IN_TOKEN n.toInt32 = f2 n.toInt32 := by
    intro n hn
    by_cases q2 : n < 33
    · exact (v2 n (by omega)).trans (own_r2 ⟨n, hn⟩ (by show 0 ≤ n; omega) q2).symm
    by_cases q3 : n < 34
    · obtain rfl : n = 33 := by omega
      exact v3.trans (by decide)
    by_cases q4 : n < 35
    · obtain rfl : n = 34 := by omega
      exact v4.trans (by decide)
    by_cases q5 : n < 40
    · exact (v5 n (by omega) (by omega)).trans (own_r5 ⟨n, hn⟩ (by show 35 ≤ n; omega) q5).symm
    by_cases q6 : n < 41
    · obtain rfl : n = 40 := by omega
      exact v6.trans (by decide)
    by_cases q7 : n < 42
    · obtain rfl : n = 41 := by omega
      exact v7.trans (by decide)
    by_cases q8 : n < 43
    · obtain rfl : n = 42 := by omega
      exact v8.trans (by decide)
    by_cases q9 : n < 44
    · obtain rfl : n = 43 := by omega
      exact v9.trans (by decide)
    by_cases q10 : n < 45
    · obtain rfl : n = 44 := by omega
      exact v10.trans (by decide)
    by_cases q11 : n < 46
    · obtain rfl : n = 45 := by omega
      exact v11.trans (by decide)
    by_cases q12 : n < 47
    · obtain rfl : n = 46 := by omega
      exact v12.trans (by decide)
    by_cases q13 : n < 48
    · obtain rfl : n = 47 := by omega
      exact v13.trans (by decide)
    by_cases q14 : n < 58
    · exact (v14 n (by omega) (by omega)).trans (own_r14 ⟨n, hn⟩ (by show 48 ≤ n; omega) q14).symm
    by_cases q15 : n < 65
    · exact (v15 n (by omega) (by omega)).trans (own_r15 ⟨n, hn⟩ (by show 58 ≤ n; omega) q15).symm
    by_cases q16 : n < 91
    · exact (v16 n (by omega) (by omega)).trans (own_r16 ⟨n, hn⟩ (by show 65 ≤ n; omega) q16).symm
    by_cases q17 : n < 92
    · obtain rfl : n = 91 := by omega
      exact v17.trans (by decide)
    by_cases q18 : n < 93
    · obtain rfl : n = 92 := by omega
      exact v18.trans (by decide)
    by_cases q19 : n < 94
    · obtain rfl : n = 93 := by omega
      exact v19.trans (by decide)
    by_cases q20 : n < 123
    · exact (v20 n (by omega) (by omega)).trans (own_r20 ⟨n, hn⟩ (by show 94 ≤ n; omega) q20).symm
    by_cases q21 : n < 124
    · obtain rfl : n = 123 := by omega
      exact v21.trans (by decide)
    by_cases q22 : n < 125
    · obtain rfl : n = 124 := by omega
      exact v22.trans (by decide)
    by_cases q23 : n < 126
    · obtain rfl : n = 125 := by omega
      exact v23.trans (by decide)
    by_cases q24 : n < 127
    · obtain rfl : n = 126 := by omega
      exact v24.trans (by decide)
    obtain rfl : n = 127 := by omega
    exact v25.trans (by decide)
  obtain ⟨n, o, h1, h2, h3, vr, L, rfl, ⟨hvr, N⟩, hq⟩ := rm0 l s _ hw tables_1 i0 i1 w_IN_TOKEN cl_w_IN_TOKEN s.heap s.heap.size (Nat.le_refl _) S_IN_TOKEN Tb_w_IN_TOKEN p e ha hc hk s m _ below hf ((Spec.applies_iff_loose hf).mp happ).1 ⟨rfl, State.Warmed39.refl s, rfl⟩ trivial
  have hpl : f0 i0 i1 w_IN_TOKEN cl_w_IN_TOKEN = 1 := own_plain i0 i1 w_IN_TOKEN cl_w_IN_TOKEN hv
  rw [hpl] at hvr
  subst hvr
  refine ⟨n, _, h1, h2, h3, hpost _ _ _ _ _ _ ⟨Cond.after_iff.mpr rfl, Cond.after_iff.mpr (eq_i res_at (Term.int_eval (1)) rfl), trivial⟩ ⟨hq.1, hq.2.1, (hq.2.2.sift fun y hy => Or.inr (N y hy)).mono (by decide) (by decide)⟩⟩
theorem main_1_1 : Claimed_1_1 := comes_1 fun _ _ _ _ _ _ h hF => ⟨h.1, hF⟩
theorem main_1_2 : Claimed_1_2 := comes_1 fun _ _ _ _ _ _ h hF => ⟨h.2.1, hF⟩

end Jvm.Pilot.@@N@@
namespace Jvm.Pilot.@@N@@
open Jvm Jvm.ClassFile Sem Op Lib Jvm.Free Jvm.Stand Jvm.Pilot.@@N@@.Jvm.D
/-! MADE BY PROGRAM (witnessworld.py) out of the Statement's table words and the real class files: 11 classes; the members and pool entries that the words name. The judged class is class 1, her method 1. -/
namespace start1
open Jvm.ClassFile
def u (s : String) : CpInfo := .utf8 (stringToUtf16 s)
/-- a pool by its gaps: so many unusable entries, then the entry; so many at the end -/
def gap : Nat → List CpInfo → List CpInfo
  | 0, r => r
  | n + 1, r => .unusable :: gap n r
def poolList (es : List (Nat × CpInfo)) (last : Nat) : List CpInfo := es.foldr (fun e r => gap e.1 (e.2 :: r)) (gap last [])
def pool (es : List (Nat × CpInfo)) (last : Nat) : Array CpInfo := ⟨poolList es last⟩
def fileOf (pool : Array CpInfo) (this : Nat) (attrs : Array Attribute := #[]) (ms : Array MethodInfo := #[]) (fl : Nat := 33) (sup : Nat := 0) (ifs : Array Nat := #[]) (fds : Array FieldInfo := #[]) : ClassFile where
  minorVersion := 0
  majorVersion := 65
  constantPool := pool
  accessFlags := fl
  thisClass := this
  superClass := sup
  interfaces := ifs
  fields := fds
  methods := ms
  attributes := attrs
def plain (name : String) (sup : Option ClassId) : Class where
  name := name
  kind := .ordinary
  loader := none
  accessFlags := 33
  super := sup
  interfaces := #[]
  cf := none
  fields := #[]
  methods := #[]
  instanceTypes := #[]
  staticTypes := #[]
  resolved := #[]
  callSites := []
  init := .initialized
  statics := none
  mirror := none

def pool0 : Array CpInfo := pool [(5, u "<init>"), (0, u "()V"), (1, .class_ 10), (1, u "java/lang/Object")] 113

def k0m0 : Method := { name := "<init>", desc := "()V", sig := { parameters := [], returnType := none }, accessFlags := 1, code := none }
/-- java/lang/Object -/
def k0 : Class := { plain "java/lang/Object" none with
  accessFlags := 33
  interfaces := #[]
  cf := some (fileOf pool0 8 #[] #[{ accessFlags := 1, nameIndex := 5, descriptorIndex := 6, attributes := #[] }] 33 0 #[] #[])
  fields := #[]
  methods := #[k0m0]
  instanceTypes := #[]
  staticTypes := #[]
  resolved := Array.replicate 124 none
  statics := none }

def pool1 : Array CpInfo := pool [(2, .class_ 4), (1, u "java/lang/Object"), (0, u "<init>"), (0, u "()V"), (0, .integer 2147483647), (0, .methodref 9 10), (0, .class_ 11), (0, .nameAndType 12 13), (0, u "com/example/exception_mapper/exceptionmapper/HttpSyntax"), (0, u "inToken"), (0, u "(I)Z"), (0, .methodref 15 16), (0, .class_ 17), (0, .nameAndType 18 13), (0, u "com/example/exception_mapper/exceptionmapper/HttpSyntaxInTokenPinLaw"), (0, u "expected"), (2, u "law"), (0, u "(II)Z")] 3

def k1m0 : Method := { name := "<init>", desc := "()V", sig := { parameters := [], returnType := none }, accessFlags := 1, code := none }
def k1c1 : Code := { maxStack := 2, maxLocals := 3, code := code, exceptionTable := #[], attributes := #[] }
def k1m1 : Method := { name := "law", desc := "(II)Z", sig := { parameters := [.int, .int], returnType := some .boolean }, accessFlags := 9, code := some k1c1 }
def k1c2 : Code := { maxStack := 2, maxLocals := 1, code := method_3_code, exceptionTable := #[], attributes := #[] }
def k1m2 : Method := { name := "expected", desc := "(I)Z", sig := { parameters := [.int], returnType := some .boolean }, accessFlags := 10, code := some k1c2 }
/-- com/example/exception_mapper/exceptionmapper/HttpSyntaxInTokenPinLaw -/
def k1 : Class := { plain "com/example/exception_mapper/exceptionmapper/HttpSyntaxInTokenPinLaw" (some 0) with
  accessFlags := 49
  interfaces := #[]
  cf := some (fileOf pool1 15 #[] #[{ accessFlags := 1, nameIndex := 5, descriptorIndex := 6, attributes := #[] }, { accessFlags := 9, nameIndex := 21, descriptorIndex := 22, attributes := #[] }, { accessFlags := 10, nameIndex := 18, descriptorIndex := 13, attributes := #[] }] 49 2 #[] #[])
  fields := #[]
  methods := #[k1m0, k1m1, k1m2]
  instanceTypes := #[]
  staticTypes := #[]
  resolved := Array.replicate 26 none
  statics := none }

def pool2 : Array CpInfo := pool [(2, .class_ 4), (1, u "java/lang/Object"), (0, u "<init>"), (0, u "()V"), (21, .fieldref 29 30), (0, .class_ 31), (0, .nameAndType 32 33), (0, u "com/example/exception_mapper/exceptionmapper/HttpSyntax"), (0, u "IN_TOKEN"), (0, u "[Z"), (10, u "TOKEN_SYMBOLS"), (0, u "Ljava/lang/String;"), (7, u "inToken"), (0, u "(I)Z")] 26

def k2m0 : Method := { name := "<init>", desc := "()V", sig := { parameters := [], returnType := none }, accessFlags := 2, code := none }
def k2c1 : Code := { maxStack := 2, maxLocals := 1, code := prog_18_method_4_code, exceptionTable := #[], attributes := #[] }
def k2m1 : Method := { name := "inToken", desc := "(I)Z", sig := { parameters := [.int], returnType := some .boolean }, accessFlags := 8, code := some k2c1 }
/-- com/example/exception_mapper/exceptionmapper/HttpSyntax -/
def k2 : Class := { plain "com/example/exception_mapper/exceptionmapper/HttpSyntax" (some 0) with
  accessFlags := 48
  interfaces := #[]
  cf := some (fileOf pool2 29 #[] #[{ accessFlags := 2, nameIndex := 5, descriptorIndex := 6, attributes := #[] }, { accessFlags := 8, nameIndex := 53, descriptorIndex := 54, attributes := #[] }] 48 2 #[] #[{ accessFlags := 26, nameIndex := 44, descriptorIndex := 45, attributes := #[] }, { accessFlags := 26, nameIndex := 32, descriptorIndex := 33, attributes := #[] }])
  fields := #[{ name := "TOKEN_SYMBOLS", type := (.object "java/lang/String"), accessFlags := 26, slot := 0, constantValue := 0 }, { name := "IN_TOKEN", type := (.array .boolean), accessFlags := 26, slot := 1, constantValue := 0 }]
  methods := #[k2m0, k2m1]
  instanceTypes := #[]
  staticTypes := #[(.object "java/lang/String"), (.array .boolean)]
  resolved := Array.replicate 81 none
  statics := some 0 }

def pool3 : Array CpInfo := pool [(1, u "java/lang/Cloneable"), (0, .class_ 1), (0, u "java/lang/Object"), (0, .class_ 3)] 3

/-- java/lang/Cloneable -/
def k3 : Class := { plain "java/lang/Cloneable" (some 0) with
  accessFlags := 1537
  interfaces := #[]
  cf := some (fileOf pool3 2 #[] #[] 1537 4 #[] #[])
  fields := #[]
  methods := #[]
  instanceTypes := #[]
  staticTypes := #[]
  resolved := Array.replicate 8 none
  statics := none }

def pool4 : Array CpInfo := pool [(1, u "java/io/Serializable"), (0, .class_ 1), (0, u "java/lang/Object"), (0, .class_ 3)] 3

/-- java/io/Serializable -/
def k4 : Class := { plain "java/io/Serializable" (some 0) with
  accessFlags := 1537
  interfaces := #[]
  cf := some (fileOf pool4 2 #[] #[] 1537 4 #[] #[])
  fields := #[]
  methods := #[]
  instanceTypes := #[]
  staticTypes := #[]
  resolved := Array.replicate 8 none
  statics := none }

/-- the primitive boolean -/
def k5 : Class := { plain "boolean" none with kind := .primitive 'Z', accessFlags := 0x411 }
/-- [Z -/
def k6 : Class := { plain "[Z" (some 0) with kind := .array 5 .boolean, interfaces := #[3, 4], accessFlags := 1041 }

/-- the primitive byte -/
def k7 : Class := { plain "byte" none with kind := .primitive 'B', accessFlags := 0x411 }
/-- [B -/
def k8 : Class := { plain "[B" (some 0) with kind := .array 7 .byte, interfaces := #[3, 4], accessFlags := 1041 }

/-- the primitive int -/
def k9 : Class := { plain "int" none with kind := .primitive 'I', accessFlags := 0x411 }
/-- [I -/
def k10 : Class := { plain "[I" (some 0) with kind := .array 9 .int, interfaces := #[3, 4], accessFlags := 1041 }

def heap : Heap := #[{ cls := 2, slots := #[.null, .ref 1], vm := .statics 2 },
  { cls := 6, slots := #[.int 0, .int 0, .int 0, .int 0, .int 0, .int 0, .int 0, .int 0, .int 0, .int 0, .int 0, .int 0, .int 0, .int 0, .int 0, .int 0, .int 0, .int 0, .int 0, .int 0, .int 0, .int 0, .int 0, .int 0, .int 0, .int 0, .int 0, .int 0, .int 0, .int 0, .int 0, .int 0, .int 0, .int 1, .int 0, .int 1, .int 1, .int 1, .int 1, .int 1, .int 0, .int 0, .int 1, .int 1, .int 0, .int 1, .int 1, .int 0, .int 1, .int 1, .int 1, .int 1, .int 1, .int 1, .int 1, .int 1, .int 1, .int 1, .int 0, .int 0, .int 0, .int 0, .int 0, .int 0, .int 0, .int 1, .int 1, .int 1, .int 1, .int 1, .int 1, .int 1, .int 1, .int 1, .int 1, .int 1, .int 1, .int 1, .int 1, .int 1, .int 1, .int 1, .int 1, .int 1, .int 1, .int 1, .int 1, .int 1, .int 1, .int 1, .int 1, .int 0, .int 0, .int 0, .int 1, .int 1, .int 1, .int 1, .int 1, .int 1, .int 1, .int 1, .int 1, .int 1, .int 1, .int 1, .int 1, .int 1, .int 1, .int 1, .int 1, .int 1, .int 1, .int 1, .int 1, .int 1, .int 1, .int 1, .int 1, .int 1, .int 1, .int 1, .int 1, .int 0, .int 1, .int 0, .int 1, .int 0], vm := .none }]
def classes : Array Class := #[k0, k1, k2, k3, k4, k5, k6, k7, k8, k9, k10]
def interned : List (Array UInt16 × Addr) := []
def slotsUsed : Nat := 130
def theMethod : MethodId := ⟨1, 1⟩
def args0 : Array Value := #[.int 5, .int 7]
def aboutOver (below : List Frame) : State where
  vm := { classes := classes, interned := interned.toArray }
  heap := heap
  slotsUsed := slotsUsed
  threads := #[{ frames := .invoking theMethod args0 :: below }]
def below0 : List Frame := [.native { method := ⟨0, 0⟩, args := #[] }]
def about1 : State := aboutOver below0
def p0 : Program := .bare "" "" ""
def e0 : Env := launch0.env 0 0 0
theorem w_frames : about1.frames = Frame.invoking theMethod args0 :: below0 := rfl
set_option maxRecDepth 65536 in
theorem w_args : argsFit about1.vm theMethod args0 = true := by decide +kernel
set_option maxRecDepth 65536 in
theorem w_heap : heapFits about1 = true := by decide +kernel
set_option maxRecDepth 65536 in
theorem w_runnable : about1.curStatus? = some .runnable := by decide +kernel
set_option maxRecDepth 65536 in
theorem w_alone : about1.alone = true := by decide +kernel
set_option maxRecDepth 65536 in
theorem w_named : about1.methodNamed? x = some theMethod := by decide +kernel
set_option maxRecDepth 65536 in
theorem w_hears : about1.hears theMethod below0 = true := by decide +kernel
set_option maxRecDepth 65536 in
theorem w_ripe : about1.ripe theMethod args0 below0 = true := by decide +kernel
theorem w_running : about1.status = .running := rfl
set_option maxRecDepth 65536 in
theorem w_room : about1.hasRoom e0.platform room_1 = true :=
  launch0.hasRoom_least _ room_1 (by decide +kernel) (by decide +kernel) (by decide +kernel) (by decide +kernel) (by decide +kernel) (by decide +kernel)
theorem allAtoms_all (ts : List Jvm.Cond) (a : Array Jvm.Value) (st : Jvm.State) : (allAtoms ts).before a st = ts.all (fun c => c.before a st) := by
  induction ts with
  | nil => rfl
  | cons c t ih =>
    show (Jvm.Cond.and c (allAtoms t)).before a st = _
    rw [Jvm.Cond.before_and, ih, List.all_cons]
def words1 : List Jvm.Cond := Jvm.Cond.code x code maxLocals ret :: tables_1
/-- a 'code' word, met by the world's own term for the bytes: nothing is compared byte by byte -/
theorem code_word {y : MethodName} {bytes : ByteArray} {mx : Nat} {rt : Option FieldType} {a : Array Value} {s : State} {m : MethodId} {meth : Method} {c : Code} (h1 : s.methodNamed? y = some m) (h2 : s.vm.method? m = some meth) (h3 : meth.code = some c) (h4 : c.code = bytes)
    (h5 : (c.maxLocals == mx && c.exceptionTable.isEmpty && decide (c.maxStack ≤ mostOperands) && decide (meth.sig.returnType = rt) && !meth.locks && decide (parseMethodDescriptor y.desc = some meth.sig)) = true) : (Jvm.Cond.code y bytes mx rt).before a s = true := by
  simp only [Bool.and_eq_true, beq_iff_eq, Bool.not_eq_true', decide_eq_true_eq] at h5
  obtain ⟨⟨⟨⟨⟨g1, g2⟩, g3⟩, g4⟩, g5⟩, g6⟩ := h5
  simp [Cond.before, Cond.holds, Cond.value, h1, h2, h3, h4, g1, g2, g3, g4, g5, g6]
def isCode : Jvm.Cond → Bool
  | .code _ _ _ _ => true
  | _ => false
theorem all_split {L : List Jvm.Cond} {P : Jvm.Cond → Bool} (h1 : L.all (fun c => isCode c || P c) = true) (h2 : ∀ c ∈ L.filter isCode, P c = true) : L.all P = true := by
  refine List.all_eq_true.mpr fun c hc => ?_
  have h := List.all_eq_true.mp h1 c hc
  rcases Bool.eq_false_or_eq_true (isCode c) with hi | hi
  · exact h2 c (List.mem_filter.mpr ⟨hc, hi⟩)
  · simpa [hi] using h
set_option maxRecDepth 65536 in
theorem w_c0 : (Jvm.Cond.code x code maxLocals ret).before args0 about1 = true := code_word (m := ⟨1, 1⟩) (meth := k1m1) (c := k1c1) (by decide +kernel) rfl rfl rfl (by decide +kernel)
set_option maxRecDepth 65536 in
theorem w_c1 : (Jvm.Cond.code ({ cls := "com/example/exception_mapper/exceptionmapper/HttpSyntax", name := "inToken", desc := "(I)Z" } : Jvm.MethodName) prog_18_method_4_code (1 : Nat) (Option.some Jvm.ClassFile.FieldType.boolean)).before args0 about1 = true := code_word (m := ⟨2, 1⟩) (meth := k2m1) (c := k2c1) (by decide +kernel) rfl rfl rfl (by decide +kernel)
set_option maxRecDepth 65536 in
theorem w_c2 : (Jvm.Cond.code ({ cls := "com/example/exception_mapper/exceptionmapper/HttpSyntaxInTokenPinLaw", name := "expected", desc := "(I)Z" } : Jvm.MethodName) method_3_code (1 : Nat) (Option.some Jvm.ClassFile.FieldType.boolean)).before args0 about1 = true := code_word (m := ⟨1, 2⟩) (meth := k1m2) (c := k1c2) (by decide +kernel) rfl rfl rfl (by decide +kernel)
def codes1 : List Jvm.Cond := [Jvm.Cond.code x code maxLocals ret, Jvm.Cond.code ({ cls := "com/example/exception_mapper/exceptionmapper/HttpSyntax", name := "inToken", desc := "(I)Z" } : Jvm.MethodName) prog_18_method_4_code (1 : Nat) (Option.some Jvm.ClassFile.FieldType.boolean), Jvm.Cond.code ({ cls := "com/example/exception_mapper/exceptionmapper/HttpSyntaxInTokenPinLaw", name := "expected", desc := "(I)Z" } : Jvm.MethodName) method_3_code (1 : Nat) (Option.some Jvm.ClassFile.FieldType.boolean)]
set_option maxRecDepth 65536 in
theorem codes_eq : words1.filter isCode = codes1 := rfl
theorem w_codes : ∀ c ∈ words1.filter isCode, c.before args0 about1 = true := by
  rw [codes_eq]
  intro c hc
  simp only [codes1, List.mem_cons, List.not_mem_nil, or_false] at hc
  rcases hc with rfl | rfl | rfl
  · exact w_c0
  · exact w_c1
  · exact w_c2
set_option maxRecDepth 65536 in
theorem w_t1 : words1.all (fun c => isCode c || c.before args0 about1) = true := by decide +kernel
theorem w_tables : (allAtoms (Jvm.Cond.code x code maxLocals ret :: tables_1)).before args0 about1 = true := by
  rw [allAtoms_all]
  show words1.all (fun c => c.before args0 about1) = true
  refine all_split ?_ w_codes
  rw [w_t1]
set_option maxRecDepth 65536 in
theorem w_case : (Jvm.Cond.and given_1 narrow_1).before args0 about1 = true := by decide +kernel
theorem w_applies : (headSpec (Jvm.Cond.code x code maxLocals ret :: tables_1) room_1).applies x e0.platform about1 = true :=
  (Spec.applies_iff w_frames).mpr ⟨w_running, w_runnable, w_alone, w_named, w_hears, w_ripe, w_room, w_tables⟩
theorem atStart : AtStart classFile x code maxLocals ret World_1 tables_1 room_1 Calls_1 rest_1 Pre_1 launch0 p0 e0 about1 theMethod args0 below0 :=
  ⟨lists_1, trivial, launch0.admits_env _ _ _, launch0.least_env, fairChoices_fair.cas, fairChoices_fair.clock, w_frames, w_args, w_heap, w_applies, trivial, trivial, w_case⟩
end start1
theorem witness_1 : WitnessClaimed_1 := ⟨start1.p0, start1.e0, start1.about1, start1.theMethod, start1.args0, start1.below0, start1.atStart⟩
end Jvm.Pilot.@@N@@
