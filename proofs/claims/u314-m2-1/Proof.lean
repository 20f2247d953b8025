import JvmDerived
import JvmDerived.Pilot.@@N@@Statement
import JvmDerived.Pilot.@@N@@Code
set_option linter.unusedVariables false
set_option linter.unusedSimpArgs false
@@BLOCK:NumsL.lean.txt@@
namespace Jvm.RoadKit
open Sem ClassFile Op Lib Jvm.Stand Jvm.Free Jvm.LawKit
section New
variable {p : Program} {l : Launch} {e : Env} {R : Room} {s : State} {m : MethodId} {args : Array Value} {below : List Frame} {meth : Method} {c : Code} {T : State} {locs : List Loc} {cells slots : Nat}
theorem retI (X : Stand p l e R s m args below meth c T locs cells slots) (hx : p.tables.exec = Jvm.exec) {pc : Nat} {Ls : Array Slot} {z : Int32} {rest : List Value} (hret : meth.sig.returnType = some .int) (hd : decode c.code pc = .ok (.ireturn, 1)) {fs : List Frame}
    (hl : ∀ (f : JFrame) (acts : List Action), f.method = m → f.locked = none → f.entered = [] → (doReturn e (T.setTop f) acts (some (.int z))).1 = T.setFrames fs) : Steps p.tables e below (T.setTop (mkF m pc Ls (.int z :: rest))) (T.setFrames fs) := by
  have hm' : T.vm.method? m = some meth := X.method'
  have hn : narrow .int (.int z) = .int z := rfl
  show Steps p.tables e below (T.setTop { method := m, pc := pc, locals := Ls, stack := _ :: rest, locked := none }) _
  jvm_step X.here [X.here.top, hx, hd, hm', hret, hn]
  first | (intro acts; rw [hl _ acts rfl rfl rfl]) | rw [hl _ _ rfl rfl rfl]
  exact Steps.refl _
end New
end Jvm.RoadKit
namespace Jvm.Pilot.@@N@@
open Jvm Jvm.ClassFile Sem Op Lib Jvm.Free Jvm.Stand Jvm.LawKit Jvm.RoadKit Bundle Jvm.Pilot.@@N@@.Jvm.D
theorem own_nz_J {x : Int64} (h : (0 : Int64) < x) : ¬ (x = (0 : Int64)) := by rintro rfl; exact absurd h (by decide)
theorem own_nz_I {x : Int32} (h : (0 : Int32) < x) : ¬ (x = (0 : Int32)) := by rintro rfl; exact absurd h (by decide)
theorem own_fld {s : State} {args : Array Value} {tt : Term} {a : Addr} {C n d : String} {k : Int32} (ev : tt.eval args s none [] s = some (.ref a)) (h : (Jvm.Cond.eq (.field tt C n d) (.int k)).value args s none s [] = some true) : Fld s s.heap a C n d (.int k) := by
  obtain ⟨u, v, hu, hv, k1, k2⟩ := cmp_v (Or.inl h)
  have hv' : v = .int k := (Option.some.inj (hv.symm.trans (Term.int_eval k)))
  subst hv'
  obtain ⟨z, rfl⟩ := k2
  have hz := gotT (Cond.eq_ints hu hv) h
  subst hz
  exact Fld.start (by rw [← fld_at ev]; exact hu)
def own_at (vs : List Int32) (j : Int32) : Int32 := vs.getD j.toNatClampNeg 0
def own_atL (vs : List Int64) (j : Int32) : Int64 := vs.getD j.toNatClampNeg 0
theorem own_getD (vs : List Int32) (j : Int32) : (vs.map Value.int).getD j.toNatClampNeg (.int (0 : Int32)) = .int (own_at vs j) := by
  unfold own_at
  generalize j.toNatClampNeg = k
  induction vs generalizing k with
  | nil => rfl
  | cons a t ih => cases k with
    | zero => rfl
    | succ k => simpa using ih k
theorem own_getDL (vs : List Int64) (j : Int32) : (vs.map Value.long).getD j.toNatClampNeg (.long (0 : Int64)) = .long (own_atL vs j) := by
  unfold own_atL
  generalize j.toNatClampNeg = k
  induction vs generalizing k with
  | nil => rfl
  | cons a t ih => cases k with
    | zero => rfl
    | succ k => simpa using ih k
def own_k (p : Int32) : Int32 := (1 : Int32) + ((p &&& (2147483647 : Int32)) - ((p &&& (2147483647 : Int32)) / (3 : Int32)) * (3 : Int32))
theorem own_rel (x : Int32) : ¬ ((0 : Int32) < (((x &&& (65535 : Int32)).toUInt32 >>> ((16 : Int32) &&& 31).toUInt32).toInt32)) := by
  have h1 := c_mask x 65535 16 (by decide) (by decide)
  have h2 := c_iushr (x &&& 65535) 16 16 (by decide) (by decide)
  rw [Int32.lt_iff_toInt_lt, show (0 : Int32).toInt = 0 from rfl]
  omega
theorem d1_0 : decode prog_8_method_1_code 0 = .ok (.aload_n 0, 1) := by decide +kernel
theorem d1_1 : decode prog_8_method_1_code 1 = .ok (.invokespecial 5, 3) := by decide +kernel
theorem d1_4 : decode prog_8_method_1_code 4 = .ok (.aload_n 0, 1) := by decide +kernel
theorem d1_5 : decode prog_8_method_1_code 5 = .ok (.iconst 1, 1) := by decide +kernel
theorem d1_6 : decode prog_8_method_1_code 6 = .ok (.anewarray 11, 3) := by decide +kernel
theorem d1_9 : decode prog_8_method_1_code 9 = .ok (.putfield 13, 3) := by decide +kernel
theorem d1_12 : decode prog_8_method_1_code 12 = .ok (.return_, 1) := by decide +kernel
theorem pn_1 : plainName "com/example/loadstone/loadstone/ByteChunks" = true := by first | (simp [plainName, overriddenIn]; done) | decide +kernel
theorem ef_1 (m : MethodId) (x0 : Addr) : entryFrame m #[(.ref x0)] 1 = mkF m 0 #[.val (.ref x0)] [] := by first | (simp [entryFrame, mkF, argsToLocals, Value.category]; done) | rfl
def Q1 (Z : State) (a1 : Addr) (u_chunks_a1 : Value) (u_length_a1 : Value) (u_released_a1 : Value) (h0 : Heap) (n0 : Nat) (v : Option Value) (h : Heap) (L : List Loc) : Prop := ∃ (b3 : Addr) (k3 : ClassId), n0 ≤ b3 ∧ h0.size ≤ b3 ∧ v = none ∧ Fr n0 L ∧ Keep h0 h [a1] ∧ Exa Z h a1 "com/example/loadstone/loadstone/ByteChunks" ∧ Fld Z h a1 "com/example/loadstone/loadstone/ByteChunks" "chunks" "[[B" (.ref b3) ∧ Fld Z h a1 "com/example/loadstone/loadstone/ByteChunks" "length" "I" u_length_a1 ∧ Fld Z h a1 "com/example/loadstone/loadstone/ByteChunks" "released" "I" u_released_a1 ∧ Arv Z h b3 k3 (.array .byte) (1 : Int32) [.null] .null ∧ OvrA Z k3 .byte "[B"
set_option maxRecDepth 65536 in
set_option maxHeartbeats 40000000 in
theorem rm1 (l : Launch) (Z : State) (a0 : Array Value) (hw : ∀ d ∈ tables_1, d.before a0 Z = true) (ws : List Jvm.Cond) (a1 : Addr) (u_chunks_a1 : Value) (u_length_a1 : Value) (u_released_a1 : Value) (h0 : Heap) (n0 : Nat) (Z0 : n0 ≤ h0.size) (E_a1 : Exa Z h0 a1 "com/example/loadstone/loadstone/ByteChunks") (F_chunks_a1 : Fld Z h0 a1 "com/example/loadstone/loadstone/ByteChunks" "chunks" "[[B" u_chunks_a1) (F_length_a1 : Fld Z h0 a1 "com/example/loadstone/loadstone/ByteChunks" "length" "I" u_length_a1) (F_released_a1 : Fld Z h0 a1 "com/example/loadstone/loadstone/ByteChunks" "released" "I" u_released_a1) (g_a1 : n0 ≤ a1) :
    MetFree l (⟨"com/example/loadstone/loadstone/ByteChunks", "<init>", "()V"⟩ : MethodName) (head1 (Jvm.Cond.code (⟨"com/example/loadstone/loadstone/ByteChunks", "<init>", "()V"⟩ : MethodName) prog_8_method_1_code 1 none :: ws) ({ frames := 1, cells := 1, slots := 1, locals := 12 } : Room)) (fun a U => a = #[(.ref a1)] ∧ Z.Warmed39 U.vm ∧ U.heap = h0) (fun _ _ _ _ _ => True) (fun _ U o U' => ∃ v L, o = .returned v ∧ Q1 Z a1 u_chunks_a1 u_length_a1 u_released_a1 h0 n0 v U'.heap L ∧ FrameEnd U o U' L ({ frames := 1, cells := 1, slots := 1, locals := 12 } : Room).cells ({ frames := 1, cells := 1, slots := 1, locals := 12 } : Room).slots) := by
  refine MetFree.of_bodySF (plainFor_of_name pn_1) hisR ?_
  intro p e s m args below meth c s₁ Bd hml0 hP hK
  obtain ⟨rfl, hZ, hh⟩ := hP
  have hx := Bd.exec
  have hby := Bd.bytes
  have hml : c.maxLocals = 1 := hml0
  have hown : s.vm.findClass "com/example/loadstone/loadstone/ByteChunks" = some m.cls := findClass_of_methodNamed Bd.named
  have hnm := (name_of_methodNamed Bd.named Bd.method).1
  have X0 : Stand p l e ({ frames := 1, cells := 1, slots := 1, locals := 12 } : Room) s m #[(.ref a1)] below meth c s₁ [] 0 0 := Stand.of_body Bd
  have e0 : s₁.heap = h0 := by rw [← hh, Bd.state]; rfl
  have N0 := Fr.nil n0
  have pre0 : ∀ t, Steps p.tables e below (s₁.setTop (mkF m 0 #[.val (.ref a1)] [])) t → Steps p.tables e below (s₁.setTop (entryFrame m #[(.ref a1)] 1)) t := fun t k => castTop (ef_1 m a1) k
  obtain ⟨T2, X2, e2, st2⟩ := initO X0 hx hZ hown (hw _ (List.mem_of_getElem? (i := 6) rfl)) (hw _ (List.mem_of_getElem? (i := 7) rfl)) (hw _ (List.mem_of_getElem? (i := 8) rfl)) e0 (g := (mkF m 1 #[.val (.ref a1)] [(.ref a1)])) rfl (by rw [hml]; rfl) rfl (hb hby d1_1) (by decide) (W := 0) (by show 2 * 0 + _ ≤ _; exact Nat.le_of_eq rfl) (by decide)
  obtain ⟨T3, h3, k3, X3, e3, E3, A3, -, O3, st3⟩ := newRA X2 hx hZ (ty := .byte) hown rfl (hw _ (List.mem_of_getElem? (i := 9) rfl)) (hw _ (List.mem_of_getElem? (i := 10) rfl)) e2 (g := (mkF m 6 #[.val (.ref a1)] [(.int (1 : Int32)), (.ref a1)])) rfl (hb hby d1_6) rfl (by decide) (cap := 1) (by decide) (by decide) (by decide) (by decide) rfl
  obtain ⟨b3, g3⟩ : ∃ z, z = h0.size := ⟨_, rfl⟩
  rw [← g3] at A3 st3
  have g_b3 : n0 ≤ b3 := Nat.le_trans Z0 (Nat.le_of_eq g3.symm)
  have sz_b3 : h0.size ≤ b3 := Nat.le_trans (Keep.refl h0 [a1]).1 (Nat.le_of_eq g3.symm)
  have K3 : Keep h0 h3 [a1] := (Keep.refl h0 [a1]).ext E3
  have V_b3 : Arv Z h3 b3 k3 (.array .byte) (1 : Int32) [.null] .null := (Arv.new A3 (by decide)).pad (pad_rep [] .null 1)
  have ne_a1_b3 : a1 ≠ b3 := Nat.ne_of_lt (Nat.lt_of_lt_of_le E_a1.lt (Nat.le_of_eq g3.symm))
  have F4 := (F_chunks_a1.ext E3)
  have F5 := (F_length_a1.ext E3)
  have F6 := (F_released_a1.ext E3)
  have Ex7 := (E_a1.ext E3)
  have Zs8 : n0 ≤ h3.size := (Nat.le_trans Z0 E3.1)
  obtain ⟨T9, h9, X9, e9, W9, st9⟩ := putF X3 hx hZ hown (host := "") (Or.inl (hw _ (List.mem_of_getElem? (i := 11) rfl))) Via.refl e3 F4 Ex7 (Or.inl (hw _ (List.mem_of_getElem? (i := 12) rfl))) (hw _ (List.mem_of_getElem? (i := 1) rfl)) (ty := (.array (.array .byte))) (by decide) rfl rfl (g := (mkF m 9 #[.val (.ref a1)] [(.ref b3), (.ref a1)])) rfl rfl (hb hby d1_9)
  have Fw9 := F4.same W9
  have N9 := Fr.snoc X9 N0 g_a1
  have K9 : Keep h0 h9 [a1] := K3.wr W9 (Or.inl (List.mem_of_getElem? (i := 0) rfl))
  obtain ⟨fs, hr, hrun, hended, hW, hsame⟩ := X9.leave (v := none) (fun _ => rfl) (by first | exact BodyLoose.notSynchronized Bd | exact Body.notSynchronized Bd)
  refine ⟨_, _, pre0 _ ?_, hrun, hended, _, _, rfl, ?_, ⟨_, rfl⟩, hW, hsame.mono (by decide) (by decide)⟩
  · show Steps p.tables e below (s₁.setTop (mkF m 0 #[.val (.ref a1)] [])) _
    refine XS.aloadN X0.here hx rfl (hb hby d1_0) rfl rfl ?_
    show Steps p.tables e below (s₁.setTop (mkF m 1 _ [(.ref a1)])) _
    refine st2 _ ?_
    show Steps p.tables e below (T2.setTop (mkF m 4 _ [])) _
    refine XS.aloadN X2.here hx rfl (hb hby d1_4) rfl rfl ?_
    show Steps p.tables e below (T2.setTop (mkF m 5 _ [(.ref a1)])) _
    refine XS.iconst X2.here hx rfl (hb hby d1_5) ?_
    show Steps p.tables e below (T2.setTop (mkF m 6 _ [(.int (1 : Int32)), (.ref a1)])) _
    refine st3 _ ?_
    show Steps p.tables e below (T3.setTop (mkF m 9 _ [(.ref b3), (.ref a1)])) _
    refine st9 _ ?_
    show Steps p.tables e below (T9.setTop (mkF m 12 #[.val (.ref a1)] [])) _
    exact X9.returnOut hx Bd.returns (hb hby d1_12) hr
  · show Q1 Z a1 u_chunks_a1 u_length_a1 u_released_a1 h0 n0 _ T9.heap _
    rw [e9]
    have F10 := (F5.other W9 (Or.inr (slot_ne (Or.inl (hw _ (List.mem_of_getElem? (i := 20) rfl))) (Or.inl (hw _ (List.mem_of_getElem? (i := 12) rfl))) (by decide) (t := .int) (t' := (.array (.array .byte))) (by decide) (by decide))))
    have F11 := (F6.other W9 (Or.inr (slot_ne (Or.inl (hw _ (List.mem_of_getElem? (i := 32) rfl))) (Or.inl (hw _ (List.mem_of_getElem? (i := 12) rfl))) (by decide) (t := .int) (t' := (.array (.array .byte))) (by decide) (by decide))))
    have Ex12 := (Ex7.wr W9)
    have Av13 := (V_b3.other W9 (Ne.symm ne_a1_b3))
    have Zs14 : n0 ≤ h9.size := (Nat.le_trans Zs8 (Keep.of_wr W9).1)
    exact ⟨b3, k3, g_b3, sz_b3, rfl, N9, K9, Ex12, Fw9, F10, F11, Av13, O3⟩
theorem d3_0 : decode prog_8_method_8_code 0 = .ok (.aload_n 0, 1) := by decide +kernel
theorem d3_1 : decode prog_8_method_8_code 1 = .ok (.getfield 17, 3) := by decide +kernel
theorem d3_4 : decode prog_8_method_8_code 4 = .ok (.bipush 16, 2) := by decide +kernel
theorem d3_6 : decode prog_8_method_8_code 6 = .ok (.iushr, 1) := by decide +kernel
theorem d3_7 : decode prog_8_method_8_code 7 = .ok (.istore_n 2, 1) := by decide +kernel
theorem d3_8 : decode prog_8_method_8_code 8 = .ok (.iload_n 2, 1) := by decide +kernel
theorem d3_9 : decode prog_8_method_8_code 9 = .ok (.aload_n 0, 1) := by decide +kernel
theorem d3_10 : decode prog_8_method_8_code 10 = .ok (.getfield 13, 3) := by decide +kernel
theorem d3_13 : decode prog_8_method_8_code 13 = .ok (.arraylength, 1) := by decide +kernel
theorem d3_14 : decode prog_8_method_8_code 14 = .ok (.if_icmp .ne 24, 3) := by decide +kernel
theorem d3_38 : decode prog_8_method_8_code 38 = .ok (.aload_n 0, 1) := by decide +kernel
theorem d3_39 : decode prog_8_method_8_code 39 = .ok (.getfield 13, 3) := by decide +kernel
theorem d3_42 : decode prog_8_method_8_code 42 = .ok (.iload_n 2, 1) := by decide +kernel
theorem d3_43 : decode prog_8_method_8_code 43 = .ok (.aaload, 1) := by decide +kernel
theorem d3_44 : decode prog_8_method_8_code 44 = .ok (.ifnonnull 13, 3) := by decide +kernel
theorem d3_57 : decode prog_8_method_8_code 57 = .ok (.aload_n 0, 1) := by decide +kernel
theorem d3_58 : decode prog_8_method_8_code 58 = .ok (.getfield 13, 3) := by decide +kernel
theorem d3_61 : decode prog_8_method_8_code 61 = .ok (.iload_n 2, 1) := by decide +kernel
theorem d3_62 : decode prog_8_method_8_code 62 = .ok (.aaload, 1) := by decide +kernel
theorem d3_63 : decode prog_8_method_8_code 63 = .ok (.aload_n 0, 1) := by decide +kernel
theorem d3_64 : decode prog_8_method_8_code 64 = .ok (.getfield 17, 3) := by decide +kernel
theorem d3_67 : decode prog_8_method_8_code 67 = .ok (.ldc 33, 2) := by decide +kernel
theorem d3_69 : decode prog_8_method_8_code 69 = .ok (.iand, 1) := by decide +kernel
theorem d3_70 : decode prog_8_method_8_code 70 = .ok (.iload_n 1, 1) := by decide +kernel
theorem d3_71 : decode prog_8_method_8_code 71 = .ok (.bastore, 1) := by decide +kernel
theorem d3_72 : decode prog_8_method_8_code 72 = .ok (.aload_n 0, 1) := by decide +kernel
theorem d3_73 : decode prog_8_method_8_code 73 = .ok (.dup, 1) := by decide +kernel
theorem d3_74 : decode prog_8_method_8_code 74 = .ok (.getfield 17, 3) := by decide +kernel
theorem d3_77 : decode prog_8_method_8_code 77 = .ok (.iconst 1, 1) := by decide +kernel
theorem d3_78 : decode prog_8_method_8_code 78 = .ok (.iadd, 1) := by decide +kernel
theorem d3_79 : decode prog_8_method_8_code 79 = .ok (.putfield 17, 3) := by decide +kernel
theorem d3_82 : decode prog_8_method_8_code 82 = .ok (.return_, 1) := by decide +kernel
theorem pn_3 : plainName "com/example/loadstone/loadstone/ByteChunks" = true := by first | (simp [plainName, overriddenIn]; done) | decide +kernel
theorem ef_3 (m : MethodId) (x0 : Addr) (x1 : Int32) : entryFrame m #[(.ref x0), (.int x1)] 3 = mkF m 0 #[.val (.ref x0), .val (.int x1), .unset] [] := by first | (simp [entryFrame, mkF, argsToLocals, Value.category]; done) | rfl
def Q3 (Z : State) (a1 : Addr) (p2 : Int32) (w_chunks_a1 : Addr) (w_length_a1 : Int32) (u_released_a1 : Value) (k_w_chunks_a1 : ClassId) (c1 : Addr) (k_c1 : ClassId) (vs_c1 : List Int32) (n_c1 : Int32) (h0 : Heap) (n0 : Nat) (v : Option Value) (h : Heap) (L : List Loc) : Prop := v = none ∧ Fr n0 L ∧ Keep h0 h [c1, a1] ∧ Exa Z h a1 "com/example/loadstone/loadstone/ByteChunks" ∧ Fld Z h a1 "com/example/loadstone/loadstone/ByteChunks" "chunks" "[[B" (.ref w_chunks_a1) ∧ Fld Z h a1 "com/example/loadstone/loadstone/ByteChunks" "length" "I" (.int (w_length_a1 + (1 : Int32))) ∧ Fld Z h a1 "com/example/loadstone/loadstone/ByteChunks" "released" "I" u_released_a1 ∧ Arv Z h c1 k_c1 .byte n_c1 ((vs_c1.set ((w_length_a1 &&& (65535 : Int32))).toNatClampNeg (nar .byte p2)).map Value.int) (.int (0 : Int32))
set_option maxRecDepth 65536 in
set_option maxHeartbeats 40000000 in
theorem rm3 (l : Launch) (Z : State) (a0 : Array Value) (hw : ∀ d ∈ tables_1, d.before a0 Z = true) (ws : List Jvm.Cond) (a1 : Addr) (p2 : Int32) (w_chunks_a1 : Addr) (w_length_a1 : Int32) (u_released_a1 : Value) (k_w_chunks_a1 : ClassId) (c1 : Addr) (k_c1 : ClassId) (vs_c1 : List Int32) (n_c1 : Int32) (h0 : Heap) (n0 : Nat) (Z0 : n0 ≤ h0.size) (hp : ((w_length_a1.toUInt32 >>> ((16 : Int32) &&& 31).toUInt32).toInt32) = (0 : Int32)) (E_a1 : Exa Z h0 a1 "com/example/loadstone/loadstone/ByteChunks") (F_chunks_a1 : Fld Z h0 a1 "com/example/loadstone/loadstone/ByteChunks" "chunks" "[[B" (.ref w_chunks_a1)) (F_length_a1 : Fld Z h0 a1 "com/example/loadstone/loadstone/ByteChunks" "length" "I" (.int w_length_a1)) (F_released_a1 : Fld Z h0 a1 "com/example/loadstone/loadstone/ByteChunks" "released" "I" u_released_a1) (V_w_chunks_a1 : Arv Z h0 w_chunks_a1 k_w_chunks_a1 (.array .byte) (1 : Int32) [(.ref c1)] .null) (Ov_w_chunks_a1 : OvrA Z k_w_chunks_a1 .byte "[B") (V_c1 : Arv Z h0 c1 k_c1 .byte n_c1 (vs_c1.map Value.int) (.int (0 : Int32))) (hin71 : (¬ ((w_length_a1 &&& (65535 : Int32)) < (0 : Int32)) ∧ (w_length_a1 &&& (65535 : Int32)) < n_c1)) (ne_a1_c1 : a1 ≠ c1) (ne_w_chunks_a1_c1 : w_chunks_a1 ≠ c1) (hlen71 : ((w_length_a1 &&& (65535 : Int32))).toNatClampNeg < vs_c1.length) (g_c1 : n0 ≤ c1) (ne_w_chunks_a1_a1 : w_chunks_a1 ≠ a1) (g_a1 : n0 ≤ a1) :
    MetFree l (⟨"com/example/loadstone/loadstone/ByteChunks", "put", "(B)V"⟩ : MethodName) (head1 (Jvm.Cond.code (⟨"com/example/loadstone/loadstone/ByteChunks", "put", "(B)V"⟩ : MethodName) prog_8_method_8_code 3 none :: ws) ({ frames := 0, cells := 0, slots := 0, locals := 0 } : Room)) (fun a U => a = #[(.ref a1), (.int p2)] ∧ Z.Warmed39 U.vm ∧ U.heap = h0) (fun _ _ _ _ _ => True) (fun _ U o U' => ∃ v L, o = .returned v ∧ Q3 Z a1 p2 w_chunks_a1 w_length_a1 u_released_a1 k_w_chunks_a1 c1 k_c1 vs_c1 n_c1 h0 n0 v U'.heap L ∧ FrameEnd U o U' L ({ frames := 0, cells := 0, slots := 0, locals := 0 } : Room).cells ({ frames := 0, cells := 0, slots := 0, locals := 0 } : Room).slots) := by
  refine MetFree.of_bodySF (plainFor_of_name pn_3) hisR ?_
  intro p e s m args below meth c s₁ Bd hml0 hP hK
  obtain ⟨rfl, hZ, hh⟩ := hP
  have hx := Bd.exec
  have hby := Bd.bytes
  have hml : c.maxLocals = 3 := hml0
  have hown : s.vm.findClass "com/example/loadstone/loadstone/ByteChunks" = some m.cls := findClass_of_methodNamed Bd.named
  have hnm := (name_of_methodNamed Bd.named Bd.method).1
  have X0 : Stand p l e ({ frames := 0, cells := 0, slots := 0, locals := 0 } : Room) s m #[(.ref a1), (.int p2)] below meth c s₁ [] 0 0 := Stand.of_body Bd
  have e0 : s₁.heap = h0 := by rw [← hh, Bd.state]; rfl
  have N0 := Fr.nil n0
  have pre0 : ∀ t, Steps p.tables e below (s₁.setTop (mkF m 0 #[.val (.ref a1), .val (.int p2), .unset] [])) t → Steps p.tables e below (s₁.setTop (entryFrame m #[(.ref a1), (.int p2)] 3)) t := fun t k => castTop (ef_3 m a1 p2) k
  obtain ⟨T3, X3, e3, st3⟩ := getF X0 hx hZ hown (host := "") (Or.inl (hw _ (List.mem_of_getElem? (i := 19) rfl))) Via.refl e0 F_length_a1 (g := (mkF m 1 #[.val (.ref a1), .val (.int p2), .unset] [(.ref a1)])) rfl rfl (hb hby d3_1)
  obtain ⟨T4, X4, e4, st4⟩ := getF X3 hx hZ hown (host := "") (Or.inl (hw _ (List.mem_of_getElem? (i := 11) rfl))) Via.refl e3 F_chunks_a1 (g := (mkF m 10 #[.val (.ref a1), .val (.int p2), .val (.int (0 : Int32))] [(.ref a1), (.int (0 : Int32))])) rfl rfl (hb hby d3_10)
  obtain ⟨cl5, Ar5, qq5, Ss5, Nn5, Hh5, Gg5⟩ := id V_w_chunks_a1
  obtain ⟨T6, X6, e6, st6⟩ := getF X4 hx hZ hown (host := "") (Or.inl (hw _ (List.mem_of_getElem? (i := 11) rfl))) Via.refl e4 F_chunks_a1 (g := (mkF m 39 #[.val (.ref a1), .val (.int p2), .val (.int (0 : Int32))] [(.ref a1)])) rfl rfl (hb hby d3_39)
  obtain ⟨cl7, Ar7, qq7, Ss7, Nn7, Hh7, Gg7⟩ := id V_w_chunks_a1
  have hin7 : ¬ ((0 : Int32) < 0 ∨ cl7.slots.size ≤ ((0 : Int32)).toNatClampNeg) := inb_of Ss7 ⟨by decide, by decide⟩
  have hat7 := Has.at (v := (.ref c1)) Hh7 hin7 rfl
  obtain ⟨T8, X8, e8, st8⟩ := getF X6 hx hZ hown (host := "") (Or.inl (hw _ (List.mem_of_getElem? (i := 11) rfl))) Via.refl e6 F_chunks_a1 (g := (mkF m 58 #[.val (.ref a1), .val (.int p2), .val (.int (0 : Int32))] [(.ref a1)])) rfl rfl (hb hby d3_58)
  obtain ⟨cl9, Ar9, qq9, Ss9, Nn9, Hh9, Gg9⟩ := id V_w_chunks_a1
  have hin9 : ¬ ((0 : Int32) < 0 ∨ cl9.slots.size ≤ ((0 : Int32)).toNatClampNeg) := inb_of Ss9 ⟨by decide, by decide⟩
  have hat9 := Has.at (v := (.ref c1)) Hh9 hin9 rfl
  obtain ⟨T10, X10, e10, st10⟩ := getF X8 hx hZ hown (host := "") (Or.inl (hw _ (List.mem_of_getElem? (i := 19) rfl))) Via.refl e8 F_length_a1 (g := (mkF m 64 #[.val (.ref a1), .val (.int p2), .val (.int (0 : Int32))] [(.ref a1), (.ref c1)])) rfl rfl (hb hby d3_64)
  obtain ⟨cl11, Ar11, qq11, Ss11, Nn11, Hh11, Gg11⟩ := id V_c1
  have hin11 : ¬ ((w_length_a1 &&& (65535 : Int32)) < 0 ∨ cl11.slots.size ≤ ((w_length_a1 &&& (65535 : Int32))).toNatClampNeg) := inb_of Ss11 (hin71)
  obtain ⟨T11, h11, X11, e11, W11, st11⟩ := stB X10 hx hZ e10 Ar11 (j := (w_length_a1 &&& (65535 : Int32))) hin11 (g := (mkF m 71 #[.val (.ref a1), .val (.int p2), .val (.int (0 : Int32))] [(.int p2), (.int (w_length_a1 &&& (65535 : Int32))), (.ref c1)])) rfl rfl (hb hby d3_71)
  have V11 : Arv Z h11 c1 k_c1 .byte n_c1 ((vs_c1.set ((w_length_a1 &&& (65535 : Int32))).toNatClampNeg (nar .byte p2)).map Value.int) (.int (0 : Int32)) := by rw [List.map_set]; exact Arv.set Ar11 qq11 Ss11 Nn11 Hh11 Gg11 (fits_nar_byte _) W11 _ rfl (by rw [List.length_map]; exact hlen71)
  have N11 := Fr.snoc X11 N0 g_c1
  have K11 : Keep h0 h11 [c1, a1] := (Keep.refl h0 [c1, a1]).wr W11 (Or.inl (List.mem_of_getElem? (i := 0) rfl))
  obtain ⟨T12, X12, e12, st12⟩ := getF X11 hx hZ hown (host := "") (Or.inl (hw _ (List.mem_of_getElem? (i := 19) rfl))) Via.refl e11 (F_length_a1.other W11 (Or.inl ne_a1_c1)) (g := (mkF m 74 #[.val (.ref a1), .val (.int p2), .val (.int (0 : Int32))] [(.ref a1), (.ref a1)])) rfl rfl (hb hby d3_74)
  have F13 := (F_chunks_a1.other W11 (Or.inl ne_a1_c1))
  have F14 := (F_length_a1.other W11 (Or.inl ne_a1_c1))
  have F15 := (F_released_a1.other W11 (Or.inl ne_a1_c1))
  have Ex16 := (E_a1.wr W11)
  have Av17 := (V_w_chunks_a1.other W11 ne_w_chunks_a1_c1)
  have Zs18 : n0 ≤ h11.size := (Nat.le_trans Z0 (Keep.of_wr W11).1)
  obtain ⟨T19, h19, X19, e19, W19, st19⟩ := putF X12 hx hZ hown (host := "") (Or.inl (hw _ (List.mem_of_getElem? (i := 19) rfl))) Via.refl e12 F14 Ex16 (Or.inl (hw _ (List.mem_of_getElem? (i := 20) rfl))) (hw _ (List.mem_of_getElem? (i := 1) rfl)) (ty := .int) (by decide) rfl rfl (g := (mkF m 79 #[.val (.ref a1), .val (.int p2), .val (.int (0 : Int32))] [(.int (w_length_a1 + (1 : Int32))), (.ref a1)])) rfl rfl (hb hby d3_79)
  have Fw19 := F14.same W19
  have N19 := Fr.snoc X19 N11 g_a1
  have K19 : Keep h0 h19 [c1, a1] := K11.wr W19 (Or.inl (List.mem_of_getElem? (i := 1) rfl))
  obtain ⟨fs, hr, hrun, hended, hW, hsame⟩ := X19.leave (v := none) (fun _ => rfl) (by first | exact BodyLoose.notSynchronized Bd | exact Body.notSynchronized Bd)
  refine ⟨_, _, pre0 _ ?_, hrun, hended, _, _, rfl, ?_, ⟨_, rfl⟩, hW, hsame.mono (by decide) (by decide)⟩
  · show Steps p.tables e below (s₁.setTop (mkF m 0 #[.val (.ref a1), .val (.int p2), .unset] [])) _
    refine XS.aloadN X0.here hx rfl (hb hby d3_0) rfl rfl ?_
    show Steps p.tables e below (s₁.setTop (mkF m 1 _ [(.ref a1)])) _
    refine st3 _ ?_
    show Steps p.tables e below (T3.setTop (mkF m 4 _ [(.int w_length_a1)])) _
    refine XS.bipush X3.here hx rfl (hb hby d3_4) ?_
    show Steps p.tables e below (T3.setTop (mkF m 6 _ [(.int (16 : Int32)), (.int w_length_a1)])) _
    refine XS.iushr X3.here hx rfl (hb hby d3_6) rfl ?_
    show Steps p.tables e below (T3.setTop (mkF m 7 _ [(.int ((w_length_a1.toUInt32 >>> ((16 : Int32) &&& 31).toUInt32).toInt32))])) _
    rw [hp]
    show Steps p.tables e below (T3.setTop (mkF m 7 _ [(.int (0 : Int32))])) _
    refine XS.istoreN X3.here hx rfl (hb hby d3_7) rfl (l' := #[.val (.ref a1), .val (.int p2), .val (.int (0 : Int32))]) rfl ?_
    show Steps p.tables e below (T3.setTop (mkF m 8 _ [])) _
    refine XS.iloadN X3.here hx rfl (hb hby d3_8) rfl ?_
    show Steps p.tables e below (T3.setTop (mkF m 9 _ [(.int (0 : Int32))])) _
    refine XS.aloadN X3.here hx rfl (hb hby d3_9) rfl rfl ?_
    show Steps p.tables e below (T3.setTop (mkF m 10 _ [(.ref a1), (.int (0 : Int32))])) _
    refine st4 _ ?_
    show Steps p.tables e below (T4.setTop (mkF m 13 _ [(.ref w_chunks_a1), (.int (0 : Int32))])) _
    refine X4.arraylength hx (by rw [e4]; exact Ar5.1) (State.isArrayOf_alike hZ.alike Ar5.2.1) (g := (mkF m 13 #[.val (.ref a1), .val (.int p2), .val (.int (0 : Int32))] [(.ref w_chunks_a1), (.int (0 : Int32))])) rfl rfl (hb hby d3_13) _ ?_
    rw [len_of Ss5 Nn5]
    show Steps p.tables e below (T4.setTop (mkF m 14 _ [(.int (1 : Int32)), (.int (0 : Int32))])) _
    refine XS.icmpYes X4.here hx rfl (pc0 := 14) (pc' := 38) rfl (hb hby d3_14) rfl (feq (by decide)).2 (by decide) (by decide) ?_
    show Steps p.tables e below (T4.setTop (mkF m 38 _ [])) _
    refine XS.aloadN X4.here hx rfl (hb hby d3_38) rfl rfl ?_
    show Steps p.tables e below (T4.setTop (mkF m 39 _ [(.ref a1)])) _
    refine st6 _ ?_
    show Steps p.tables e below (T6.setTop (mkF m 42 _ [(.ref w_chunks_a1)])) _
    refine XS.iloadN X6.here hx rfl (hb hby d3_42) rfl ?_
    show Steps p.tables e below (T6.setTop (mkF m 43 _ [(.int (0 : Int32)), (.ref w_chunks_a1)])) _
    refine X6.aaload hx (j := (0 : Int32)) (v := (.ref c1)) (by rw [e6]; exact Ar7.1) (State.isArrayOf_alike hZ.alike Ar7.2.1) rfl Ar7.2.2 hin7 hat7 (g := (mkF m 43 #[.val (.ref a1), .val (.int p2), .val (.int (0 : Int32))] [(.int (0 : Int32)), (.ref w_chunks_a1)])) rfl rfl (hb hby d3_43) _ ?_
    show Steps p.tables e below (T6.setTop (mkF m 44 _ [(.ref c1)])) _
    refine XS.ifnonnullYes X6.here hx rfl (pc0 := 44) (pc' := 57) rfl (hb hby d3_44) rfl (by decide) (by decide) ?_
    show Steps p.tables e below (T6.setTop (mkF m 57 _ [])) _
    refine XS.aloadN X6.here hx rfl (hb hby d3_57) rfl rfl ?_
    show Steps p.tables e below (T6.setTop (mkF m 58 _ [(.ref a1)])) _
    refine st8 _ ?_
    show Steps p.tables e below (T8.setTop (mkF m 61 _ [(.ref w_chunks_a1)])) _
    refine XS.iloadN X8.here hx rfl (hb hby d3_61) rfl ?_
    show Steps p.tables e below (T8.setTop (mkF m 62 _ [(.int (0 : Int32)), (.ref w_chunks_a1)])) _
    refine X8.aaload hx (j := (0 : Int32)) (v := (.ref c1)) (by rw [e8]; exact Ar9.1) (State.isArrayOf_alike hZ.alike Ar9.2.1) rfl Ar9.2.2 hin9 hat9 (g := (mkF m 62 #[.val (.ref a1), .val (.int p2), .val (.int (0 : Int32))] [(.int (0 : Int32)), (.ref w_chunks_a1)])) rfl rfl (hb hby d3_62) _ ?_
    show Steps p.tables e below (T8.setTop (mkF m 63 _ [(.ref c1)])) _
    refine XS.aloadN X8.here hx rfl (hb hby d3_63) rfl rfl ?_
    show Steps p.tables e below (T8.setTop (mkF m 64 _ [(.ref a1), (.ref c1)])) _
    refine st10 _ ?_
    show Steps p.tables e below (T10.setTop (mkF m 67 _ [(.int w_length_a1), (.ref c1)])) _
    refine X10.ldcInt hx hown (mvT hZ (hw _ (List.mem_of_getElem? (i := 24) rfl))) (g := (mkF m 67 #[.val (.ref a1), .val (.int p2), .val (.int (0 : Int32))] [(.int w_length_a1), (.ref c1)])) rfl (hb hby d3_67) _ ?_
    show Steps p.tables e below (T10.setTop (mkF m 69 _ [(.int (65535 : Int32)), (.int w_length_a1), (.ref c1)])) _
    refine XS.iand X10.here hx rfl (hb hby d3_69) rfl ?_
    show Steps p.tables e below (T10.setTop (mkF m 70 _ [(.int (w_length_a1 &&& (65535 : Int32))), (.ref c1)])) _
    refine XS.iloadN X10.here hx rfl (hb hby d3_70) rfl ?_
    show Steps p.tables e below (T10.setTop (mkF m 71 _ [(.int p2), (.int (w_length_a1 &&& (65535 : Int32))), (.ref c1)])) _
    refine st11 _ ?_
    show Steps p.tables e below (T11.setTop (mkF m 72 _ [])) _
    refine XS.aloadN X11.here hx rfl (hb hby d3_72) rfl rfl ?_
    show Steps p.tables e below (T11.setTop (mkF m 73 _ [(.ref a1)])) _
    refine XS.dup X11.here hx rfl (hb hby d3_73) rfl rfl ?_
    show Steps p.tables e below (T11.setTop (mkF m 74 _ [(.ref a1), (.ref a1)])) _
    refine st12 _ ?_
    show Steps p.tables e below (T12.setTop (mkF m 77 _ [(.int w_length_a1), (.ref a1)])) _
    refine XS.iconst X12.here hx rfl (hb hby d3_77) ?_
    show Steps p.tables e below (T12.setTop (mkF m 78 _ [(.int (1 : Int32)), (.int w_length_a1), (.ref a1)])) _
    refine XS.iadd X12.here hx rfl (hb hby d3_78) rfl ?_
    show Steps p.tables e below (T12.setTop (mkF m 79 _ [(.int (w_length_a1 + (1 : Int32))), (.ref a1)])) _
    refine st19 _ ?_
    show Steps p.tables e below (T19.setTop (mkF m 82 #[.val (.ref a1), .val (.int p2), .val (.int (0 : Int32))] [])) _
    exact X19.returnOut hx Bd.returns (hb hby d3_82) hr
  · show Q3 Z a1 p2 w_chunks_a1 w_length_a1 u_released_a1 k_w_chunks_a1 c1 k_c1 vs_c1 n_c1 h0 n0 _ T19.heap _
    rw [e19]
    have F20 := (F13.other W19 (Or.inr (slot_ne (Or.inl (hw _ (List.mem_of_getElem? (i := 12) rfl))) (Or.inl (hw _ (List.mem_of_getElem? (i := 20) rfl))) (by decide) (t := (.array (.array .byte))) (t' := .int) (by decide) (by decide))))
    have F21 := (F15.other W19 (Or.inr (slot_ne (Or.inl (hw _ (List.mem_of_getElem? (i := 32) rfl))) (Or.inl (hw _ (List.mem_of_getElem? (i := 20) rfl))) (by decide) (t := .int) (t' := .int) (by decide) (by decide))))
    have Ex22 := (Ex16.wr W19)
    have Av23 := (Av17.other W19 ne_w_chunks_a1_a1)
    have Av24 := (V11.other W19 (Ne.symm ne_a1_c1))
    have Zs25 : n0 ≤ h19.size := (Nat.le_trans Zs18 (Keep.of_wr W19).1)
    exact ⟨rfl, N19, K19, Ex22, F20, Fw19, F21, Av24⟩
theorem d103_0 : decode prog_8_method_8_code 0 = .ok (.aload_n 0, 1) := by decide +kernel
theorem d103_1 : decode prog_8_method_8_code 1 = .ok (.getfield 17, 3) := by decide +kernel
theorem d103_4 : decode prog_8_method_8_code 4 = .ok (.bipush 16, 2) := by decide +kernel
theorem d103_6 : decode prog_8_method_8_code 6 = .ok (.iushr, 1) := by decide +kernel
theorem d103_7 : decode prog_8_method_8_code 7 = .ok (.istore_n 2, 1) := by decide +kernel
theorem d103_8 : decode prog_8_method_8_code 8 = .ok (.iload_n 2, 1) := by decide +kernel
theorem d103_9 : decode prog_8_method_8_code 9 = .ok (.aload_n 0, 1) := by decide +kernel
theorem d103_10 : decode prog_8_method_8_code 10 = .ok (.getfield 13, 3) := by decide +kernel
theorem d103_13 : decode prog_8_method_8_code 13 = .ok (.arraylength, 1) := by decide +kernel
theorem d103_14 : decode prog_8_method_8_code 14 = .ok (.if_icmp .ne 24, 3) := by decide +kernel
theorem d103_38 : decode prog_8_method_8_code 38 = .ok (.aload_n 0, 1) := by decide +kernel
theorem d103_39 : decode prog_8_method_8_code 39 = .ok (.getfield 13, 3) := by decide +kernel
theorem d103_42 : decode prog_8_method_8_code 42 = .ok (.iload_n 2, 1) := by decide +kernel
theorem d103_43 : decode prog_8_method_8_code 43 = .ok (.aaload, 1) := by decide +kernel
theorem d103_44 : decode prog_8_method_8_code 44 = .ok (.ifnonnull 13, 3) := by decide +kernel
theorem d103_47 : decode prog_8_method_8_code 47 = .ok (.aload_n 0, 1) := by decide +kernel
theorem d103_48 : decode prog_8_method_8_code 48 = .ok (.getfield 13, 3) := by decide +kernel
theorem d103_51 : decode prog_8_method_8_code 51 = .ok (.iload_n 2, 1) := by decide +kernel
theorem d103_52 : decode prog_8_method_8_code 52 = .ok (.ldc 34, 2) := by decide +kernel
theorem d103_54 : decode prog_8_method_8_code 54 = .ok (.newarray .byte, 2) := by decide +kernel
theorem d103_56 : decode prog_8_method_8_code 56 = .ok (.aastore, 1) := by decide +kernel
theorem d103_57 : decode prog_8_method_8_code 57 = .ok (.aload_n 0, 1) := by decide +kernel
theorem d103_58 : decode prog_8_method_8_code 58 = .ok (.getfield 13, 3) := by decide +kernel
theorem d103_61 : decode prog_8_method_8_code 61 = .ok (.iload_n 2, 1) := by decide +kernel
theorem d103_62 : decode prog_8_method_8_code 62 = .ok (.aaload, 1) := by decide +kernel
theorem d103_63 : decode prog_8_method_8_code 63 = .ok (.aload_n 0, 1) := by decide +kernel
theorem d103_64 : decode prog_8_method_8_code 64 = .ok (.getfield 17, 3) := by decide +kernel
theorem d103_67 : decode prog_8_method_8_code 67 = .ok (.ldc 33, 2) := by decide +kernel
theorem d103_69 : decode prog_8_method_8_code 69 = .ok (.iand, 1) := by decide +kernel
theorem d103_70 : decode prog_8_method_8_code 70 = .ok (.iload_n 1, 1) := by decide +kernel
theorem d103_71 : decode prog_8_method_8_code 71 = .ok (.bastore, 1) := by decide +kernel
theorem d103_72 : decode prog_8_method_8_code 72 = .ok (.aload_n 0, 1) := by decide +kernel
theorem d103_73 : decode prog_8_method_8_code 73 = .ok (.dup, 1) := by decide +kernel
theorem d103_74 : decode prog_8_method_8_code 74 = .ok (.getfield 17, 3) := by decide +kernel
theorem d103_77 : decode prog_8_method_8_code 77 = .ok (.iconst 1, 1) := by decide +kernel
theorem d103_78 : decode prog_8_method_8_code 78 = .ok (.iadd, 1) := by decide +kernel
theorem d103_79 : decode prog_8_method_8_code 79 = .ok (.putfield 17, 3) := by decide +kernel
theorem d103_82 : decode prog_8_method_8_code 82 = .ok (.return_, 1) := by decide +kernel
theorem pn_103 : plainName "com/example/loadstone/loadstone/ByteChunks" = true := by first | (simp [plainName, overriddenIn]; done) | decide +kernel
theorem ef_103 (m : MethodId) (x0 : Addr) (x1 : Int32) : entryFrame m #[(.ref x0), (.int x1)] 3 = mkF m 0 #[.val (.ref x0), .val (.int x1), .unset] [] := by first | (simp [entryFrame, mkF, argsToLocals, Value.category]; done) | rfl
def Q103 (Z : State) (a1 : Addr) (p2 : Int32) (w_chunks_a1 : Addr) (w_length_a1 : Int32) (u_released_a1 : Value) (k_w_chunks_a1 : ClassId) (h0 : Heap) (n0 : Nat) (v : Option Value) (h : Heap) (L : List Loc) : Prop := ∃ (b9 : Addr) (k9 : ClassId), n0 ≤ b9 ∧ h0.size ≤ b9 ∧ v = none ∧ Fr n0 L ∧ Keep h0 h [w_chunks_a1, a1] ∧ Exa Z h a1 "com/example/loadstone/loadstone/ByteChunks" ∧ Fld Z h a1 "com/example/loadstone/loadstone/ByteChunks" "chunks" "[[B" (.ref w_chunks_a1) ∧ Fld Z h a1 "com/example/loadstone/loadstone/ByteChunks" "length" "I" (.int (w_length_a1 + (1 : Int32))) ∧ Fld Z h a1 "com/example/loadstone/loadstone/ByteChunks" "released" "I" u_released_a1 ∧ Arv Z h w_chunks_a1 k_w_chunks_a1 (.array .byte) (1 : Int32) [(.ref b9)] .null ∧ OvrA Z k_w_chunks_a1 .byte "[B" ∧ Arv Z h b9 k9 .byte (65536 : Int32) (([(0 : Int32), (0 : Int32), (0 : Int32), (0 : Int32), (0 : Int32), (0 : Int32), (0 : Int32), (0 : Int32)].set ((w_length_a1 &&& (65535 : Int32))).toNatClampNeg (nar .byte p2)).map Value.int) (.int (0 : Int32))
set_option maxRecDepth 65536 in
set_option maxHeartbeats 40000000 in
theorem rm103 (l : Launch) (Z : State) (a0 : Array Value) (hw : ∀ d ∈ tables_1, d.before a0 Z = true) (ws : List Jvm.Cond) (a1 : Addr) (p2 : Int32) (w_chunks_a1 : Addr) (w_length_a1 : Int32) (u_released_a1 : Value) (k_w_chunks_a1 : ClassId) (h0 : Heap) (n0 : Nat) (Z0 : n0 ≤ h0.size) (hp : ((w_length_a1.toUInt32 >>> ((16 : Int32) &&& 31).toUInt32).toInt32) = (0 : Int32)) (E_a1 : Exa Z h0 a1 "com/example/loadstone/loadstone/ByteChunks") (F_chunks_a1 : Fld Z h0 a1 "com/example/loadstone/loadstone/ByteChunks" "chunks" "[[B" (.ref w_chunks_a1)) (F_length_a1 : Fld Z h0 a1 "com/example/loadstone/loadstone/ByteChunks" "length" "I" (.int w_length_a1)) (F_released_a1 : Fld Z h0 a1 "com/example/loadstone/loadstone/ByteChunks" "released" "I" u_released_a1) (V_w_chunks_a1 : Arv Z h0 w_chunks_a1 k_w_chunks_a1 (.array .byte) (1 : Int32) [.null] .null) (Ov_w_chunks_a1 : OvrA Z k_w_chunks_a1 .byte "[B") (ne_a1_w_chunks_a1 : a1 ≠ w_chunks_a1) (g_w_chunks_a1 : n0 ≤ w_chunks_a1) (hin71 : (¬ ((w_length_a1 &&& (65535 : Int32)) < (0 : Int32)) ∧ (w_length_a1 &&& (65535 : Int32)) < (65536 : Int32))) (hlen71 : ((w_length_a1 &&& (65535 : Int32))).toNatClampNeg < [(0 : Int32), (0 : Int32), (0 : Int32), (0 : Int32), (0 : Int32), (0 : Int32), (0 : Int32), (0 : Int32)].length) (g_a1 : n0 ≤ a1) :
    MetFree l (⟨"com/example/loadstone/loadstone/ByteChunks", "put", "(B)V"⟩ : MethodName) (head1 (Jvm.Cond.code (⟨"com/example/loadstone/loadstone/ByteChunks", "put", "(B)V"⟩ : MethodName) prog_8_method_8_code 3 none :: ws) ({ frames := 0, cells := 1, slots := 65536, locals := 0 } : Room)) (fun a U => a = #[(.ref a1), (.int p2)] ∧ Z.Warmed39 U.vm ∧ U.heap = h0) (fun _ _ _ _ _ => True) (fun _ U o U' => ∃ v L, o = .returned v ∧ Q103 Z a1 p2 w_chunks_a1 w_length_a1 u_released_a1 k_w_chunks_a1 h0 n0 v U'.heap L ∧ FrameEnd U o U' L ({ frames := 0, cells := 1, slots := 65536, locals := 0 } : Room).cells ({ frames := 0, cells := 1, slots := 65536, locals := 0 } : Room).slots) := by
  refine MetFree.of_bodySF (plainFor_of_name pn_103) hisR ?_
  intro p e s m args below meth c s₁ Bd hml0 hP hK
  obtain ⟨rfl, hZ, hh⟩ := hP
  have hx := Bd.exec
  have hby := Bd.bytes
  have hml : c.maxLocals = 3 := hml0
  have hown : s.vm.findClass "com/example/loadstone/loadstone/ByteChunks" = some m.cls := findClass_of_methodNamed Bd.named
  have hnm := (name_of_methodNamed Bd.named Bd.method).1
  have X0 : Stand p l e ({ frames := 0, cells := 1, slots := 65536, locals := 0 } : Room) s m #[(.ref a1), (.int p2)] below meth c s₁ [] 0 0 := Stand.of_body Bd
  have e0 : s₁.heap = h0 := by rw [← hh, Bd.state]; rfl
  have N0 := Fr.nil n0
  have pre0 : ∀ t, Steps p.tables e below (s₁.setTop (mkF m 0 #[.val (.ref a1), .val (.int p2), .unset] [])) t → Steps p.tables e below (s₁.setTop (entryFrame m #[(.ref a1), (.int p2)] 3)) t := fun t k => castTop (ef_103 m a1 p2) k
  obtain ⟨T3, X3, e3, st3⟩ := getF X0 hx hZ hown (host := "") (Or.inl (hw _ (List.mem_of_getElem? (i := 19) rfl))) Via.refl e0 F_length_a1 (g := (mkF m 1 #[.val (.ref a1), .val (.int p2), .unset] [(.ref a1)])) rfl rfl (hb hby d103_1)
  obtain ⟨T4, X4, e4, st4⟩ := getF X3 hx hZ hown (host := "") (Or.inl (hw _ (List.mem_of_getElem? (i := 11) rfl))) Via.refl e3 F_chunks_a1 (g := (mkF m 10 #[.val (.ref a1), .val (.int p2), .val (.int (0 : Int32))] [(.ref a1), (.int (0 : Int32))])) rfl rfl (hb hby d103_10)
  obtain ⟨cl5, Ar5, qq5, Ss5, Nn5, Hh5, Gg5⟩ := id V_w_chunks_a1
  obtain ⟨T6, X6, e6, st6⟩ := getF X4 hx hZ hown (host := "") (Or.inl (hw _ (List.mem_of_getElem? (i := 11) rfl))) Via.refl e4 F_chunks_a1 (g := (mkF m 39 #[.val (.ref a1), .val (.int p2), .val (.int (0 : Int32))] [(.ref a1)])) rfl rfl (hb hby d103_39)
  obtain ⟨cl7, Ar7, qq7, Ss7, Nn7, Hh7, Gg7⟩ := id V_w_chunks_a1
  have hin7 : ¬ ((0 : Int32) < 0 ∨ cl7.slots.size ≤ ((0 : Int32)).toNatClampNeg) := inb_of Ss7 ⟨by decide, by decide⟩
  have hat7 := Has.at (v := .null) Hh7 hin7 rfl
  obtain ⟨T8, X8, e8, st8⟩ := getF X6 hx hZ hown (host := "") (Or.inl (hw _ (List.mem_of_getElem? (i := 11) rfl))) Via.refl e6 F_chunks_a1 (g := (mkF m 48 #[.val (.ref a1), .val (.int p2), .val (.int (0 : Int32))] [(.ref a1)])) rfl rfl (hb hby d103_48)
  obtain ⟨T9, h9, k9, X9, e9, E9, A9, Ax9, st9⟩ := newPE X8 hx hZ (hw _ (List.mem_of_getElem? (i := 22) rfl)) e8 (g := (mkF m 54 #[.val (.ref a1), .val (.int p2), .val (.int (0 : Int32))] [(.int (65536 : Int32)), (.int (0 : Int32)), (.ref w_chunks_a1)])) rfl (hb hby d103_54) rfl (by decide) (cap := 65536) (by decide) (by decide) (by decide) (by decide) (ad := "[B") rfl
  obtain ⟨b9, g9⟩ : ∃ z, z = h0.size := ⟨_, rfl⟩
  rw [← g9] at A9 st9 Ax9
  have g_b9 : n0 ≤ b9 := Nat.le_trans Z0 (Nat.le_of_eq g9.symm)
  have sz_b9 : h0.size ≤ b9 := Nat.le_trans (Keep.refl h0 [w_chunks_a1, a1]).1 (Nat.le_of_eq g9.symm)
  have K9 : Keep h0 h9 [w_chunks_a1, a1] := (Keep.refl h0 [w_chunks_a1, a1]).ext E9
  have V_b9 : Arv Z h9 b9 k9 .byte (65536 : Int32) ([(0 : Int32), (0 : Int32), (0 : Int32), (0 : Int32), (0 : Int32), (0 : Int32), (0 : Int32), (0 : Int32)].map Value.int) (.int (0 : Int32)) := (Arv.new A9 (by decide)).pad (pad_rep [] (.int (0 : Int32)) 8)
  have ne_a1_b9 : a1 ≠ b9 := Nat.ne_of_lt (Nat.lt_of_lt_of_le E_a1.lt (Nat.le_of_eq g9.symm))
  have ne_w_chunks_a1_b9 : w_chunks_a1 ≠ b9 := Nat.ne_of_lt (Nat.lt_of_lt_of_le V_w_chunks_a1.lt (Nat.le_of_eq g9.symm))
  have F10 := (F_chunks_a1.ext E9)
  have F11 := (F_length_a1.ext E9)
  have F12 := (F_released_a1.ext E9)
  have Ex13 := (E_a1.ext E9)
  have Av14 := (V_w_chunks_a1.ext E9)
  have Zs15 : n0 ≤ h9.size := (Nat.le_trans Z0 E9.1)
  obtain ⟨cl16, Ar16, qq16, Ss16, Nn16, Hh16, Gg16⟩ := id Av14
  have hin16 : ¬ ((0 : Int32) < 0 ∨ cl16.slots.size ≤ ((0 : Int32)).toNatClampNeg) := inb_of Ss16 ⟨by decide, by decide⟩
  obtain ⟨T16, h16, X16, e16, W16, st16⟩ := stR X9 hx hZ e9 Ar16 (j := (0 : Int32)) hin16 rfl (Sto.ofVA Ar16 qq16 Ov_w_chunks_a1 (Ins.self Ax9)) (g := (mkF m 56 #[.val (.ref a1), .val (.int p2), .val (.int (0 : Int32))] [(.ref b9), (.int (0 : Int32)), (.ref w_chunks_a1)])) rfl rfl (hb hby d103_56)
  have V16 : Arv Z h16 w_chunks_a1 k_w_chunks_a1 (.array .byte) (1 : Int32) [(.ref b9)] .null := Arv.set Ar16 qq16 Ss16 Nn16 Hh16 Gg16 rfl W16 0 rfl (Nat.le_of_ble_eq_true rfl)
  have N16 := Fr.snoc X16 N0 g_w_chunks_a1
  have K16 : Keep h0 h16 [w_chunks_a1, a1] := K9.wr W16 (Or.inl (List.mem_of_getElem? (i := 0) rfl))
  obtain ⟨T17, X17, e17, st17⟩ := getF X16 hx hZ hown (host := "") (Or.inl (hw _ (List.mem_of_getElem? (i := 11) rfl))) Via.refl e16 (F10.other W16 (Or.inl ne_a1_w_chunks_a1)) (g := (mkF m 58 #[.val (.ref a1), .val (.int p2), .val (.int (0 : Int32))] [(.ref a1)])) rfl rfl (hb hby d103_58)
  have F18 := (F10.other W16 (Or.inl ne_a1_w_chunks_a1))
  have F19 := (F11.other W16 (Or.inl ne_a1_w_chunks_a1))
  have F20 := (F12.other W16 (Or.inl ne_a1_w_chunks_a1))
  have Ex21 := (Ex13.wr W16)
  have Ex22 := (Ax9.wr W16)
  have Av23 := (V_b9.other W16 (Ne.symm ne_w_chunks_a1_b9))
  have Zs24 : n0 ≤ h16.size := (Nat.le_trans Zs15 (Keep.of_wr W16).1)
  obtain ⟨cl25, Ar25, qq25, Ss25, Nn25, Hh25, Gg25⟩ := id V16
  have hin25 : ¬ ((0 : Int32) < 0 ∨ cl25.slots.size ≤ ((0 : Int32)).toNatClampNeg) := inb_of Ss25 ⟨by decide, by decide⟩
  have hat25 := Has.at (v := (.ref b9)) Hh25 hin25 rfl
  obtain ⟨T26, X26, e26, st26⟩ := getF X17 hx hZ hown (host := "") (Or.inl (hw _ (List.mem_of_getElem? (i := 19) rfl))) Via.refl e17 F19 (g := (mkF m 64 #[.val (.ref a1), .val (.int p2), .val (.int (0 : Int32))] [(.ref a1), (.ref b9)])) rfl rfl (hb hby d103_64)
  obtain ⟨cl27, Ar27, qq27, Ss27, Nn27, Hh27, Gg27⟩ := id Av23
  have hin27 : ¬ ((w_length_a1 &&& (65535 : Int32)) < 0 ∨ cl27.slots.size ≤ ((w_length_a1 &&& (65535 : Int32))).toNatClampNeg) := inb_of Ss27 (hin71)
  obtain ⟨T27, h27, X27, e27, W27, st27⟩ := stB X26 hx hZ e26 Ar27 (j := (w_length_a1 &&& (65535 : Int32))) hin27 (g := (mkF m 71 #[.val (.ref a1), .val (.int p2), .val (.int (0 : Int32))] [(.int p2), (.int (w_length_a1 &&& (65535 : Int32))), (.ref b9)])) rfl rfl (hb hby d103_71)
  have V27 : Arv Z h27 b9 k9 .byte (65536 : Int32) (([(0 : Int32), (0 : Int32), (0 : Int32), (0 : Int32), (0 : Int32), (0 : Int32), (0 : Int32), (0 : Int32)].set ((w_length_a1 &&& (65535 : Int32))).toNatClampNeg (nar .byte p2)).map Value.int) (.int (0 : Int32)) := by rw [List.map_set]; exact Arv.set Ar27 qq27 Ss27 Nn27 Hh27 Gg27 (fits_nar_byte _) W27 _ rfl (by rw [List.length_map]; exact hlen71)
  have N27 := Fr.snoc X27 N16 g_b9
  have K27 : Keep h0 h27 [w_chunks_a1, a1] := K16.wr W27 (Or.inr sz_b9)
  obtain ⟨T28, X28, e28, st28⟩ := getF X27 hx hZ hown (host := "") (Or.inl (hw _ (List.mem_of_getElem? (i := 19) rfl))) Via.refl e27 (F19.other W27 (Or.inl ne_a1_b9)) (g := (mkF m 74 #[.val (.ref a1), .val (.int p2), .val (.int (0 : Int32))] [(.ref a1), (.ref a1)])) rfl rfl (hb hby d103_74)
  have F29 := (F18.other W27 (Or.inl ne_a1_b9))
  have F30 := (F19.other W27 (Or.inl ne_a1_b9))
  have F31 := (F20.other W27 (Or.inl ne_a1_b9))
  have Ex32 := (Ex21.wr W27)
  have Ex33 := (Ex22.wr W27)
  have Av34 := (V16.other W27 ne_w_chunks_a1_b9)
  have Zs35 : n0 ≤ h27.size := (Nat.le_trans Zs24 (Keep.of_wr W27).1)
  obtain ⟨T36, h36, X36, e36, W36, st36⟩ := putF X28 hx hZ hown (host := "") (Or.inl (hw _ (List.mem_of_getElem? (i := 19) rfl))) Via.refl e28 F30 Ex32 (Or.inl (hw _ (List.mem_of_getElem? (i := 20) rfl))) (hw _ (List.mem_of_getElem? (i := 1) rfl)) (ty := .int) (by decide) rfl rfl (g := (mkF m 79 #[.val (.ref a1), .val (.int p2), .val (.int (0 : Int32))] [(.int (w_length_a1 + (1 : Int32))), (.ref a1)])) rfl rfl (hb hby d103_79)
  have Fw36 := F30.same W36
  have N36 := Fr.snoc X36 N27 g_a1
  have K36 : Keep h0 h36 [w_chunks_a1, a1] := K27.wr W36 (Or.inl (List.mem_of_getElem? (i := 1) rfl))
  obtain ⟨fs, hr, hrun, hended, hW, hsame⟩ := X36.leave (v := none) (fun _ => rfl) (by first | exact BodyLoose.notSynchronized Bd | exact Body.notSynchronized Bd)
  refine ⟨_, _, pre0 _ ?_, hrun, hended, _, _, rfl, ?_, ⟨_, rfl⟩, hW, hsame.mono (by decide) (by decide)⟩
  · show Steps p.tables e below (s₁.setTop (mkF m 0 #[.val (.ref a1), .val (.int p2), .unset] [])) _
    refine XS.aloadN X0.here hx rfl (hb hby d103_0) rfl rfl ?_
    show Steps p.tables e below (s₁.setTop (mkF m 1 _ [(.ref a1)])) _
    refine st3 _ ?_
    show Steps p.tables e below (T3.setTop (mkF m 4 _ [(.int w_length_a1)])) _
    refine XS.bipush X3.here hx rfl (hb hby d103_4) ?_
    show Steps p.tables e below (T3.setTop (mkF m 6 _ [(.int (16 : Int32)), (.int w_length_a1)])) _
    refine XS.iushr X3.here hx rfl (hb hby d103_6) rfl ?_
    show Steps p.tables e below (T3.setTop (mkF m 7 _ [(.int ((w_length_a1.toUInt32 >>> ((16 : Int32) &&& 31).toUInt32).toInt32))])) _
    rw [hp]
    show Steps p.tables e below (T3.setTop (mkF m 7 _ [(.int (0 : Int32))])) _
    refine XS.istoreN X3.here hx rfl (hb hby d103_7) rfl (l' := #[.val (.ref a1), .val (.int p2), .val (.int (0 : Int32))]) rfl ?_
    show Steps p.tables e below (T3.setTop (mkF m 8 _ [])) _
    refine XS.iloadN X3.here hx rfl (hb hby d103_8) rfl ?_
    show Steps p.tables e below (T3.setTop (mkF m 9 _ [(.int (0 : Int32))])) _
    refine XS.aloadN X3.here hx rfl (hb hby d103_9) rfl rfl ?_
    show Steps p.tables e below (T3.setTop (mkF m 10 _ [(.ref a1), (.int (0 : Int32))])) _
    refine st4 _ ?_
    show Steps p.tables e below (T4.setTop (mkF m 13 _ [(.ref w_chunks_a1), (.int (0 : Int32))])) _
    refine X4.arraylength hx (by rw [e4]; exact Ar5.1) (State.isArrayOf_alike hZ.alike Ar5.2.1) (g := (mkF m 13 #[.val (.ref a1), .val (.int p2), .val (.int (0 : Int32))] [(.ref w_chunks_a1), (.int (0 : Int32))])) rfl rfl (hb hby d103_13) _ ?_
    rw [len_of Ss5 Nn5]
    show Steps p.tables e below (T4.setTop (mkF m 14 _ [(.int (1 : Int32)), (.int (0 : Int32))])) _
    refine XS.icmpYes X4.here hx rfl (pc0 := 14) (pc' := 38) rfl (hb hby d103_14) rfl (feq (by decide)).2 (by decide) (by decide) ?_
    show Steps p.tables e below (T4.setTop (mkF m 38 _ [])) _
    refine XS.aloadN X4.here hx rfl (hb hby d103_38) rfl rfl ?_
    show Steps p.tables e below (T4.setTop (mkF m 39 _ [(.ref a1)])) _
    refine st6 _ ?_
    show Steps p.tables e below (T6.setTop (mkF m 42 _ [(.ref w_chunks_a1)])) _
    refine XS.iloadN X6.here hx rfl (hb hby d103_42) rfl ?_
    show Steps p.tables e below (T6.setTop (mkF m 43 _ [(.int (0 : Int32)), (.ref w_chunks_a1)])) _
    refine X6.aaload hx (j := (0 : Int32)) (v := .null) (by rw [e6]; exact Ar7.1) (State.isArrayOf_alike hZ.alike Ar7.2.1) rfl Ar7.2.2 hin7 hat7 (g := (mkF m 43 #[.val (.ref a1), .val (.int p2), .val (.int (0 : Int32))] [(.int (0 : Int32)), (.ref w_chunks_a1)])) rfl rfl (hb hby d103_43) _ ?_
    show Steps p.tables e below (T6.setTop (mkF m 44 _ [.null])) _
    refine XS.ifnonnullNo X6.here hx rfl (hb hby d103_44) rfl ?_
    show Steps p.tables e below (T6.setTop (mkF m 47 _ [])) _
    refine XS.aloadN X6.here hx rfl (hb hby d103_47) rfl rfl ?_
    show Steps p.tables e below (T6.setTop (mkF m 48 _ [(.ref a1)])) _
    refine st8 _ ?_
    show Steps p.tables e below (T8.setTop (mkF m 51 _ [(.ref w_chunks_a1)])) _
    refine XS.iloadN X8.here hx rfl (hb hby d103_51) rfl ?_
    show Steps p.tables e below (T8.setTop (mkF m 52 _ [(.int (0 : Int32)), (.ref w_chunks_a1)])) _
    refine X8.ldcInt hx hown (mvT hZ (hw _ (List.mem_of_getElem? (i := 21) rfl))) (g := (mkF m 52 #[.val (.ref a1), .val (.int p2), .val (.int (0 : Int32))] [(.int (0 : Int32)), (.ref w_chunks_a1)])) rfl (hb hby d103_52) _ ?_
    show Steps p.tables e below (T8.setTop (mkF m 54 _ [(.int (65536 : Int32)), (.int (0 : Int32)), (.ref w_chunks_a1)])) _
    refine st9 _ ?_
    show Steps p.tables e below (T9.setTop (mkF m 56 _ [(.ref b9), (.int (0 : Int32)), (.ref w_chunks_a1)])) _
    refine st16 _ ?_
    show Steps p.tables e below (T16.setTop (mkF m 57 _ [])) _
    refine XS.aloadN X16.here hx rfl (hb hby d103_57) rfl rfl ?_
    show Steps p.tables e below (T16.setTop (mkF m 58 _ [(.ref a1)])) _
    refine st17 _ ?_
    show Steps p.tables e below (T17.setTop (mkF m 61 _ [(.ref w_chunks_a1)])) _
    refine XS.iloadN X17.here hx rfl (hb hby d103_61) rfl ?_
    show Steps p.tables e below (T17.setTop (mkF m 62 _ [(.int (0 : Int32)), (.ref w_chunks_a1)])) _
    refine X17.aaload hx (j := (0 : Int32)) (v := (.ref b9)) (by rw [e17]; exact Ar25.1) (State.isArrayOf_alike hZ.alike Ar25.2.1) rfl Ar25.2.2 hin25 hat25 (g := (mkF m 62 #[.val (.ref a1), .val (.int p2), .val (.int (0 : Int32))] [(.int (0 : Int32)), (.ref w_chunks_a1)])) rfl rfl (hb hby d103_62) _ ?_
    show Steps p.tables e below (T17.setTop (mkF m 63 _ [(.ref b9)])) _
    refine XS.aloadN X17.here hx rfl (hb hby d103_63) rfl rfl ?_
    show Steps p.tables e below (T17.setTop (mkF m 64 _ [(.ref a1), (.ref b9)])) _
    refine st26 _ ?_
    show Steps p.tables e below (T26.setTop (mkF m 67 _ [(.int w_length_a1), (.ref b9)])) _
    refine X26.ldcInt hx hown (mvT hZ (hw _ (List.mem_of_getElem? (i := 24) rfl))) (g := (mkF m 67 #[.val (.ref a1), .val (.int p2), .val (.int (0 : Int32))] [(.int w_length_a1), (.ref b9)])) rfl (hb hby d103_67) _ ?_
    show Steps p.tables e below (T26.setTop (mkF m 69 _ [(.int (65535 : Int32)), (.int w_length_a1), (.ref b9)])) _
    refine XS.iand X26.here hx rfl (hb hby d103_69) rfl ?_
    show Steps p.tables e below (T26.setTop (mkF m 70 _ [(.int (w_length_a1 &&& (65535 : Int32))), (.ref b9)])) _
    refine XS.iloadN X26.here hx rfl (hb hby d103_70) rfl ?_
    show Steps p.tables e below (T26.setTop (mkF m 71 _ [(.int p2), (.int (w_length_a1 &&& (65535 : Int32))), (.ref b9)])) _
    refine st27 _ ?_
    show Steps p.tables e below (T27.setTop (mkF m 72 _ [])) _
    refine XS.aloadN X27.here hx rfl (hb hby d103_72) rfl rfl ?_
    show Steps p.tables e below (T27.setTop (mkF m 73 _ [(.ref a1)])) _
    refine XS.dup X27.here hx rfl (hb hby d103_73) rfl rfl ?_
    show Steps p.tables e below (T27.setTop (mkF m 74 _ [(.ref a1), (.ref a1)])) _
    refine st28 _ ?_
    show Steps p.tables e below (T28.setTop (mkF m 77 _ [(.int w_length_a1), (.ref a1)])) _
    refine XS.iconst X28.here hx rfl (hb hby d103_77) ?_
    show Steps p.tables e below (T28.setTop (mkF m 78 _ [(.int (1 : Int32)), (.int w_length_a1), (.ref a1)])) _
    refine XS.iadd X28.here hx rfl (hb hby d103_78) rfl ?_
    show Steps p.tables e below (T28.setTop (mkF m 79 _ [(.int (w_length_a1 + (1 : Int32))), (.ref a1)])) _
    refine st36 _ ?_
    show Steps p.tables e below (T36.setTop (mkF m 82 #[.val (.ref a1), .val (.int p2), .val (.int (0 : Int32))] [])) _
    exact X36.returnOut hx Bd.returns (hb hby d103_82) hr
  · show Q103 Z a1 p2 w_chunks_a1 w_length_a1 u_released_a1 k_w_chunks_a1 h0 n0 _ T36.heap _
    rw [e36]
    have F37 := (F29.other W36 (Or.inr (slot_ne (Or.inl (hw _ (List.mem_of_getElem? (i := 12) rfl))) (Or.inl (hw _ (List.mem_of_getElem? (i := 20) rfl))) (by decide) (t := (.array (.array .byte))) (t' := .int) (by decide) (by decide))))
    have F38 := (F31.other W36 (Or.inr (slot_ne (Or.inl (hw _ (List.mem_of_getElem? (i := 32) rfl))) (Or.inl (hw _ (List.mem_of_getElem? (i := 20) rfl))) (by decide) (t := .int) (t' := .int) (by decide) (by decide))))
    have Ex39 := (Ex32.wr W36)
    have Ex40 := (Ex33.wr W36)
    have Av41 := (Av34.other W36 (Ne.symm ne_a1_w_chunks_a1))
    have Av42 := (V27.other W36 (Ne.symm ne_a1_b9))
    have Zs43 : n0 ≤ h36.size := (Nat.le_trans Zs35 (Keep.of_wr W36).1)
    exact ⟨b9, k9, g_b9, sz_b9, rfl, N36, K36, Ex39, F37, Fw36, F38, Av41, Ov_w_chunks_a1, Av42⟩
theorem d4_0 : decode prog_8_method_3_code 0 = .ok (.iload_n 1, 1) := by decide +kernel
theorem d4_1 : decode prog_8_method_3_code 1 = .ok (.bipush 16, 2) := by decide +kernel
theorem d4_3 : decode prog_8_method_3_code 3 = .ok (.iushr, 1) := by decide +kernel
theorem d4_4 : decode prog_8_method_3_code 4 = .ok (.istore_n 2, 1) := by decide +kernel
theorem d4_5 : decode prog_8_method_3_code 5 = .ok (.aload_n 0, 1) := by decide +kernel
theorem d4_6 : decode prog_8_method_3_code 6 = .ok (.getfield 21, 3) := by decide +kernel
theorem d4_9 : decode prog_8_method_3_code 9 = .ok (.iload_n 2, 1) := by decide +kernel
theorem d4_10 : decode prog_8_method_3_code 10 = .ok (.if_icmp .ge 26, 3) := by decide +kernel
theorem d4_36 : decode prog_8_method_3_code 36 = .ok (.return_, 1) := by decide +kernel
theorem pn_4 : plainName "com/example/loadstone/loadstone/ByteChunks" = true := by first | (simp [plainName, overriddenIn]; done) | decide +kernel
theorem ef_4 (m : MethodId) (x0 : Addr) (x1 : Int32) : entryFrame m #[(.ref x0), (.int x1)] 3 = mkF m 0 #[.val (.ref x0), .val (.int x1), .unset] [] := by first | (simp [entryFrame, mkF, argsToLocals, Value.category]; done) | rfl
def Q4 (Z : State) (a1 : Addr) (p2 : Int32) (w_released_a1 : Int32) (h0 : Heap) (n0 : Nat) (v : Option Value) (h : Heap) (L : List Loc) : Prop := v = none ∧ Fr n0 L ∧ h = h0
set_option maxRecDepth 65536 in
set_option maxHeartbeats 40000000 in
theorem rm4 (l : Launch) (Z : State) (a0 : Array Value) (hw : ∀ d ∈ tables_1, d.before a0 Z = true) (ws : List Jvm.Cond) (a1 : Addr) (p2 : Int32) (w_released_a1 : Int32) (h0 : Heap) (n0 : Nat) (Z0 : n0 ≤ h0.size) (hrel : ¬ (w_released_a1 < ((p2.toUInt32 >>> ((16 : Int32) &&& 31).toUInt32).toInt32))) (F_released_a1 : Fld Z h0 a1 "com/example/loadstone/loadstone/ByteChunks" "released" "I" (.int w_released_a1)) :
    MetFree l (⟨"com/example/loadstone/loadstone/ByteChunks", "release", "(I)V"⟩ : MethodName) (head1 (Jvm.Cond.code (⟨"com/example/loadstone/loadstone/ByteChunks", "release", "(I)V"⟩ : MethodName) prog_8_method_3_code 3 none :: ws) ({ frames := 0, cells := 0, slots := 0, locals := 0 } : Room)) (fun a U => a = #[(.ref a1), (.int p2)] ∧ Z.Warmed39 U.vm ∧ U.heap = h0) (fun _ _ _ _ _ => True) (fun _ U o U' => ∃ v L, o = .returned v ∧ Q4 Z a1 p2 w_released_a1 h0 n0 v U'.heap L ∧ FrameEnd U o U' L ({ frames := 0, cells := 0, slots := 0, locals := 0 } : Room).cells ({ frames := 0, cells := 0, slots := 0, locals := 0 } : Room).slots) := by
  refine MetFree.of_bodySF (plainFor_of_name pn_4) hisR ?_
  intro p e s m args below meth c s₁ Bd hml0 hP hK
  obtain ⟨rfl, hZ, hh⟩ := hP
  have hx := Bd.exec
  have hby := Bd.bytes
  have hml : c.maxLocals = 3 := hml0
  have hown : s.vm.findClass "com/example/loadstone/loadstone/ByteChunks" = some m.cls := findClass_of_methodNamed Bd.named
  have hnm := (name_of_methodNamed Bd.named Bd.method).1
  have X0 : Stand p l e ({ frames := 0, cells := 0, slots := 0, locals := 0 } : Room) s m #[(.ref a1), (.int p2)] below meth c s₁ [] 0 0 := Stand.of_body Bd
  have e0 : s₁.heap = h0 := by rw [← hh, Bd.state]; rfl
  have N0 := Fr.nil n0
  have pre0 : ∀ t, Steps p.tables e below (s₁.setTop (mkF m 0 #[.val (.ref a1), .val (.int p2), .unset] [])) t → Steps p.tables e below (s₁.setTop (entryFrame m #[(.ref a1), (.int p2)] 3)) t := fun t k => castTop (ef_4 m a1 p2) k
  obtain ⟨T3, X3, e3, st3⟩ := getF X0 hx hZ hown (host := "") (Or.inl (hw _ (List.mem_of_getElem? (i := 31) rfl))) Via.refl e0 F_released_a1 (g := (mkF m 6 #[.val (.ref a1), .val (.int p2), .val (.int ((p2.toUInt32 >>> ((16 : Int32) &&& 31).toUInt32).toInt32))] [(.ref a1)])) rfl rfl (hb hby d4_6)
  obtain ⟨fs, hr, hrun, hended, hW, hsame⟩ := X3.leave (v := none) (fun _ => rfl) (by first | exact BodyLoose.notSynchronized Bd | exact Body.notSynchronized Bd)
  refine ⟨_, _, pre0 _ ?_, hrun, hended, _, _, rfl, ?_, ⟨_, rfl⟩, hW, hsame.mono (by decide) (by decide)⟩
  · show Steps p.tables e below (s₁.setTop (mkF m 0 #[.val (.ref a1), .val (.int p2), .unset] [])) _
    refine XS.iloadN X0.here hx rfl (hb hby d4_0) rfl ?_
    show Steps p.tables e below (s₁.setTop (mkF m 1 _ [(.int p2)])) _
    refine XS.bipush X0.here hx rfl (hb hby d4_1) ?_
    show Steps p.tables e below (s₁.setTop (mkF m 3 _ [(.int (16 : Int32)), (.int p2)])) _
    refine XS.iushr X0.here hx rfl (hb hby d4_3) rfl ?_
    show Steps p.tables e below (s₁.setTop (mkF m 4 _ [(.int ((p2.toUInt32 >>> ((16 : Int32) &&& 31).toUInt32).toInt32))])) _
    refine XS.istoreN X0.here hx rfl (hb hby d4_4) rfl (l' := #[.val (.ref a1), .val (.int p2), .val (.int ((p2.toUInt32 >>> ((16 : Int32) &&& 31).toUInt32).toInt32))]) rfl ?_
    show Steps p.tables e below (s₁.setTop (mkF m 5 _ [])) _
    refine XS.aloadN X0.here hx rfl (hb hby d4_5) rfl rfl ?_
    show Steps p.tables e below (s₁.setTop (mkF m 6 _ [(.ref a1)])) _
    refine st3 _ ?_
    show Steps p.tables e below (T3.setTop (mkF m 9 _ [(.int w_released_a1)])) _
    refine XS.iloadN X3.here hx rfl (hb hby d4_9) rfl ?_
    show Steps p.tables e below (T3.setTop (mkF m 10 _ [(.int ((p2.toUInt32 >>> ((16 : Int32) &&& 31).toUInt32).toInt32)), (.int w_released_a1)])) _
    refine XS.icmpYes X3.here hx rfl (pc0 := 10) (pc' := 36) rfl (hb hby d4_10) rfl (flt (hrel)).2.1 (by decide) (by decide) ?_
    show Steps p.tables e below (T3.setTop (mkF m 36 #[.val (.ref a1), .val (.int p2), .val (.int ((p2.toUInt32 >>> ((16 : Int32) &&& 31).toUInt32).toInt32))] [])) _
    exact X3.returnOut hx Bd.returns (hb hby d4_36) hr
  · show Q4 Z a1 p2 w_released_a1 h0 n0 _ T3.heap _
    rw [e3]
    exact ⟨rfl, N0, rfl⟩
theorem d5_0 : decode prog_8_method_2_code 0 = .ok (.aload_n 0, 1) := by decide +kernel
theorem d5_1 : decode prog_8_method_2_code 1 = .ok (.getfield 17, 3) := by decide +kernel
theorem d5_4 : decode prog_8_method_2_code 4 = .ok (.ireturn, 1) := by decide +kernel
theorem pn_5 : plainName "com/example/loadstone/loadstone/ByteChunks" = true := by first | (simp [plainName, overriddenIn]; done) | decide +kernel
theorem ef_5 (m : MethodId) (x0 : Addr) : entryFrame m #[(.ref x0)] 1 = mkF m 0 #[.val (.ref x0)] [] := by first | (simp [entryFrame, mkF, argsToLocals, Value.category]; done) | rfl
def Q5 (Z : State) (a1 : Addr) (w_length_a1 : Int32) (h0 : Heap) (n0 : Nat) (v : Option Value) (h : Heap) (L : List Loc) : Prop := v = some (.int w_length_a1) ∧ Fr n0 L ∧ h = h0
set_option maxRecDepth 65536 in
set_option maxHeartbeats 40000000 in
theorem rm5 (l : Launch) (Z : State) (a0 : Array Value) (hw : ∀ d ∈ tables_1, d.before a0 Z = true) (ws : List Jvm.Cond) (a1 : Addr) (w_length_a1 : Int32) (h0 : Heap) (n0 : Nat) (Z0 : n0 ≤ h0.size) (F_length_a1 : Fld Z h0 a1 "com/example/loadstone/loadstone/ByteChunks" "length" "I" (.int w_length_a1)) :
    MetFree l (⟨"com/example/loadstone/loadstone/ByteChunks", "length", "()I"⟩ : MethodName) (head1 (Jvm.Cond.code (⟨"com/example/loadstone/loadstone/ByteChunks", "length", "()I"⟩ : MethodName) prog_8_method_2_code 1 (some .int) :: ws) ({ frames := 0, cells := 0, slots := 0, locals := 0 } : Room)) (fun a U => a = #[(.ref a1)] ∧ Z.Warmed39 U.vm ∧ U.heap = h0) (fun _ _ _ _ _ => True) (fun _ U o U' => ∃ v L, o = .returned v ∧ Q5 Z a1 w_length_a1 h0 n0 v U'.heap L ∧ FrameEnd U o U' L ({ frames := 0, cells := 0, slots := 0, locals := 0 } : Room).cells ({ frames := 0, cells := 0, slots := 0, locals := 0 } : Room).slots) := by
  refine MetFree.of_bodySF (plainFor_of_name pn_5) hisR ?_
  intro p e s m args below meth c s₁ Bd hml0 hP hK
  obtain ⟨rfl, hZ, hh⟩ := hP
  have hx := Bd.exec
  have hby := Bd.bytes
  have hml : c.maxLocals = 1 := hml0
  have hown : s.vm.findClass "com/example/loadstone/loadstone/ByteChunks" = some m.cls := findClass_of_methodNamed Bd.named
  have hnm := (name_of_methodNamed Bd.named Bd.method).1
  have X0 : Stand p l e ({ frames := 0, cells := 0, slots := 0, locals := 0 } : Room) s m #[(.ref a1)] below meth c s₁ [] 0 0 := Stand.of_body Bd
  have e0 : s₁.heap = h0 := by rw [← hh, Bd.state]; rfl
  have N0 := Fr.nil n0
  have pre0 : ∀ t, Steps p.tables e below (s₁.setTop (mkF m 0 #[.val (.ref a1)] [])) t → Steps p.tables e below (s₁.setTop (entryFrame m #[(.ref a1)] 1)) t := fun t k => castTop (ef_5 m a1) k
  obtain ⟨T2, X2, e2, st2⟩ := getF X0 hx hZ hown (host := "") (Or.inl (hw _ (List.mem_of_getElem? (i := 19) rfl))) Via.refl e0 F_length_a1 (g := (mkF m 1 #[.val (.ref a1)] [(.ref a1)])) rfl rfl (hb hby d5_1)
  obtain ⟨fs, hr, hrun, hended, hW, hsame⟩ := X2.leave (v := some (.int w_length_a1)) (fun h => by rw [Bd.returns] at h; cases h) (by first | exact BodyLoose.notSynchronized Bd | exact Body.notSynchronized Bd)
  refine ⟨_, _, pre0 _ ?_, hrun, hended, _, _, rfl, ?_, ⟨_, rfl⟩, hW, hsame.mono (by decide) (by decide)⟩
  · show Steps p.tables e below (s₁.setTop (mkF m 0 #[.val (.ref a1)] [])) _
    refine XS.aloadN X0.here hx rfl (hb hby d5_0) rfl rfl ?_
    show Steps p.tables e below (s₁.setTop (mkF m 1 _ [(.ref a1)])) _
    refine st2 _ ?_
    show Steps p.tables e below (T2.setTop (mkF m 4 #[.val (.ref a1)] [(.int w_length_a1)])) _
    exact retI X2 hx Bd.returns (hb hby d5_4) hr
  · show Q5 Z a1 w_length_a1 h0 n0 _ T2.heap _
    rw [e2]
    exact ⟨rfl, N0, rfl⟩
theorem d6_0 : decode prog_8_method_5_code 0 = .ok (.aload_n 0, 1) := by decide +kernel
theorem d6_1 : decode prog_8_method_5_code 1 = .ok (.getfield 13, 3) := by decide +kernel
theorem d6_4 : decode prog_8_method_5_code 4 = .ok (.iload_n 1, 1) := by decide +kernel
theorem d6_5 : decode prog_8_method_5_code 5 = .ok (.bipush 16, 2) := by decide +kernel
theorem d6_7 : decode prog_8_method_5_code 7 = .ok (.iushr, 1) := by decide +kernel
theorem d6_8 : decode prog_8_method_5_code 8 = .ok (.aaload, 1) := by decide +kernel
theorem d6_9 : decode prog_8_method_5_code 9 = .ok (.iload_n 1, 1) := by decide +kernel
theorem d6_10 : decode prog_8_method_5_code 10 = .ok (.ldc 33, 2) := by decide +kernel
theorem d6_12 : decode prog_8_method_5_code 12 = .ok (.iand, 1) := by decide +kernel
theorem d6_13 : decode prog_8_method_5_code 13 = .ok (.baload, 1) := by decide +kernel
theorem d6_14 : decode prog_8_method_5_code 14 = .ok (.ireturn, 1) := by decide +kernel
theorem pn_6 : plainName "com/example/loadstone/loadstone/ByteChunks" = true := by first | (simp [plainName, overriddenIn]; done) | decide +kernel
theorem ef_6 (m : MethodId) (x0 : Addr) (x1 : Int32) : entryFrame m #[(.ref x0), (.int x1)] 2 = mkF m 0 #[.val (.ref x0), .val (.int x1)] [] := by first | (simp [entryFrame, mkF, argsToLocals, Value.category]; done) | rfl
def f6 (p2 : Int32) (vs_c1 : List Int32) : Int32 := (nar .byte (own_at vs_c1 (p2 &&& (65535 : Int32))))
def Q6 (Z : State) (a1 : Addr) (p2 : Int32) (w_chunks_a1 : Addr) (k_w_chunks_a1 : ClassId) (c1 : Addr) (k_c1 : ClassId) (vs_c1 : List Int32) (n_c1 : Int32) (h0 : Heap) (n0 : Nat) (v : Option Value) (h : Heap) (L : List Loc) : Prop := v = some (.int (f6 p2 vs_c1)) ∧ Fr n0 L ∧ h = h0
set_option maxRecDepth 65536 in
set_option maxHeartbeats 40000000 in
theorem rm6 (l : Launch) (Z : State) (a0 : Array Value) (hw : ∀ d ∈ tables_1, d.before a0 Z = true) (ws : List Jvm.Cond) (a1 : Addr) (p2 : Int32) (w_chunks_a1 : Addr) (k_w_chunks_a1 : ClassId) (c1 : Addr) (k_c1 : ClassId) (vs_c1 : List Int32) (n_c1 : Int32) (h0 : Heap) (n0 : Nat) (Z0 : n0 ≤ h0.size) (hp : ((p2.toUInt32 >>> ((16 : Int32) &&& 31).toUInt32).toInt32) = (0 : Int32)) (F_chunks_a1 : Fld Z h0 a1 "com/example/loadstone/loadstone/ByteChunks" "chunks" "[[B" (.ref w_chunks_a1)) (V_w_chunks_a1 : Arv Z h0 w_chunks_a1 k_w_chunks_a1 (.array .byte) (1 : Int32) [(.ref c1)] .null) (Ov_w_chunks_a1 : OvrA Z k_w_chunks_a1 .byte "[B") (V_c1 : Arv Z h0 c1 k_c1 .byte n_c1 (vs_c1.map Value.int) (.int (0 : Int32))) (hin13 : (¬ ((p2 &&& (65535 : Int32)) < (0 : Int32)) ∧ (p2 &&& (65535 : Int32)) < n_c1)) :
    MetFree l (⟨"com/example/loadstone/loadstone/ByteChunks", "at", "(I)B"⟩ : MethodName) (head1 (Jvm.Cond.code (⟨"com/example/loadstone/loadstone/ByteChunks", "at", "(I)B"⟩ : MethodName) prog_8_method_5_code 2 (some .byte) :: ws) ({ frames := 0, cells := 0, slots := 0, locals := 0 } : Room)) (fun a U => a = #[(.ref a1), (.int p2)] ∧ Z.Warmed39 U.vm ∧ U.heap = h0) (fun _ _ _ _ _ => True) (fun _ U o U' => ∃ v L, o = .returned v ∧ Q6 Z a1 p2 w_chunks_a1 k_w_chunks_a1 c1 k_c1 vs_c1 n_c1 h0 n0 v U'.heap L ∧ FrameEnd U o U' L ({ frames := 0, cells := 0, slots := 0, locals := 0 } : Room).cells ({ frames := 0, cells := 0, slots := 0, locals := 0 } : Room).slots) := by
  refine MetFree.of_bodySF (plainFor_of_name pn_6) hisR ?_
  intro p e s m args below meth c s₁ Bd hml0 hP hK
  obtain ⟨rfl, hZ, hh⟩ := hP
  have hx := Bd.exec
  have hby := Bd.bytes
  have hml : c.maxLocals = 2 := hml0
  have hown : s.vm.findClass "com/example/loadstone/loadstone/ByteChunks" = some m.cls := findClass_of_methodNamed Bd.named
  have hnm := (name_of_methodNamed Bd.named Bd.method).1
  have X0 : Stand p l e ({ frames := 0, cells := 0, slots := 0, locals := 0 } : Room) s m #[(.ref a1), (.int p2)] below meth c s₁ [] 0 0 := Stand.of_body Bd
  have e0 : s₁.heap = h0 := by rw [← hh, Bd.state]; rfl
  have N0 := Fr.nil n0
  have pre0 : ∀ t, Steps p.tables e below (s₁.setTop (mkF m 0 #[.val (.ref a1), .val (.int p2)] [])) t → Steps p.tables e below (s₁.setTop (entryFrame m #[(.ref a1), (.int p2)] 2)) t := fun t k => castTop (ef_6 m a1 p2) k
  obtain ⟨T3, X3, e3, st3⟩ := getF X0 hx hZ hown (host := "") (Or.inl (hw _ (List.mem_of_getElem? (i := 11) rfl))) Via.refl e0 F_chunks_a1 (g := (mkF m 1 #[.val (.ref a1), .val (.int p2)] [(.ref a1)])) rfl rfl (hb hby d6_1)
  obtain ⟨cl4, Ar4, qq4, Ss4, Nn4, Hh4, Gg4⟩ := id V_w_chunks_a1
  have hin4 : ¬ ((0 : Int32) < 0 ∨ cl4.slots.size ≤ ((0 : Int32)).toNatClampNeg) := inb_of Ss4 ⟨by decide, by decide⟩
  have hat4 := Has.at (v := (.ref c1)) Hh4 hin4 rfl
  obtain ⟨cl5, Ar5, qq5, Ss5, Nn5, Hh5, Gg5⟩ := id V_c1
  have hin5 : ¬ ((p2 &&& (65535 : Int32)) < 0 ∨ cl5.slots.size ≤ ((p2 &&& (65535 : Int32))).toNatClampNeg) := inb_of Ss5 (hin13)
  have hat5 := Has.at (v := (.int (own_at vs_c1 (p2 &&& (65535 : Int32))))) Hh5 hin5 (own_getD _ _)
  obtain ⟨fs, hr, hrun, hended, hW, hsame⟩ := X3.leave (v := some (.int (nar .byte (own_at vs_c1 (p2 &&& (65535 : Int32)))))) (fun h => by rw [Bd.returns] at h; cases h) (by first | exact BodyLoose.notSynchronized Bd | exact Body.notSynchronized Bd)
  refine ⟨_, _, pre0 _ ?_, hrun, hended, _, _, rfl, ?_, ⟨_, rfl⟩, hW, hsame.mono (by decide) (by decide)⟩
  · show Steps p.tables e below (s₁.setTop (mkF m 0 #[.val (.ref a1), .val (.int p2)] [])) _
    refine XS.aloadN X0.here hx rfl (hb hby d6_0) rfl rfl ?_
    show Steps p.tables e below (s₁.setTop (mkF m 1 _ [(.ref a1)])) _
    refine st3 _ ?_
    show Steps p.tables e below (T3.setTop (mkF m 4 _ [(.ref w_chunks_a1)])) _
    refine XS.iloadN X3.here hx rfl (hb hby d6_4) rfl ?_
    show Steps p.tables e below (T3.setTop (mkF m 5 _ [(.int p2), (.ref w_chunks_a1)])) _
    refine XS.bipush X3.here hx rfl (hb hby d6_5) ?_
    show Steps p.tables e below (T3.setTop (mkF m 7 _ [(.int (16 : Int32)), (.int p2), (.ref w_chunks_a1)])) _
    refine XS.iushr X3.here hx rfl (hb hby d6_7) rfl ?_
    show Steps p.tables e below (T3.setTop (mkF m 8 _ [(.int ((p2.toUInt32 >>> ((16 : Int32) &&& 31).toUInt32).toInt32)), (.ref w_chunks_a1)])) _
    rw [hp]
    show Steps p.tables e below (T3.setTop (mkF m 8 _ [(.int (0 : Int32)), (.ref w_chunks_a1)])) _
    refine X3.aaload hx (j := (0 : Int32)) (v := (.ref c1)) (by rw [e3]; exact Ar4.1) (State.isArrayOf_alike hZ.alike Ar4.2.1) rfl Ar4.2.2 hin4 hat4 (g := (mkF m 8 #[.val (.ref a1), .val (.int p2)] [(.int (0 : Int32)), (.ref w_chunks_a1)])) rfl rfl (hb hby d6_8) _ ?_
    show Steps p.tables e below (T3.setTop (mkF m 9 _ [(.ref c1)])) _
    refine XS.iloadN X3.here hx rfl (hb hby d6_9) rfl ?_
    show Steps p.tables e below (T3.setTop (mkF m 10 _ [(.int p2), (.ref c1)])) _
    refine X3.ldcInt hx hown (mvT hZ (hw _ (List.mem_of_getElem? (i := 24) rfl))) (g := (mkF m 10 #[.val (.ref a1), .val (.int p2)] [(.int p2), (.ref c1)])) rfl (hb hby d6_10) _ ?_
    show Steps p.tables e below (T3.setTop (mkF m 12 _ [(.int (65535 : Int32)), (.int p2), (.ref c1)])) _
    refine XS.iand X3.here hx rfl (hb hby d6_12) rfl ?_
    show Steps p.tables e below (T3.setTop (mkF m 13 _ [(.int (p2 &&& (65535 : Int32))), (.ref c1)])) _
    refine X3.baloadBytes hx (j := (p2 &&& (65535 : Int32))) (v := (.int (own_at vs_c1 (p2 &&& (65535 : Int32))))) (by rw [e3]; exact Ar5.1) (State.isArrayOf_alike hZ.alike Ar5.2.1) Ar5.2.2 hin5 hat5 (g := (mkF m 13 #[.val (.ref a1), .val (.int p2)] [(.int (p2 &&& (65535 : Int32))), (.ref c1)])) rfl rfl (hb hby d6_13) _ ?_
    show Steps p.tables e below (T3.setTop (mkF m 14 #[.val (.ref a1), .val (.int p2)] [(.int (own_at vs_c1 (p2 &&& (65535 : Int32))))])) _
    exact retN X3 hx (t := .byte) Bd.returns (by simp) (hb hby d6_14) hr
  · show Q6 Z a1 p2 w_chunks_a1 k_w_chunks_a1 c1 k_c1 vs_c1 n_c1 h0 n0 _ T3.heap _
    rw [e3]
    exact ⟨congrArg (fun z => some (Value.int z)) (by rw [f6] : f6 p2 vs_c1 = (nar .byte (own_at vs_c1 (p2 &&& (65535 : Int32))))).symm, N0, rfl⟩
theorem pn_0 : plainName "com/example/loadstone/loadstone/ByteChunksReleasePinLaw" = true := by first | (simp [plainName, overriddenIn]; done) | decide +kernel
theorem pd_0_0 : parseMethodDescriptor "()V" = some ⟨[], none⟩ := by decide +kernel
theorem pd_0_1 : parseMethodDescriptor "(B)V" = some ⟨[.byte], none⟩ := by decide +kernel
theorem pd_0_2 : parseMethodDescriptor "(I)V" = some ⟨[.int], none⟩ := by decide +kernel
theorem pd_0_3 : parseMethodDescriptor "()I" = some ⟨[], some .int⟩ := by decide +kernel
theorem pd_0_4 : parseMethodDescriptor "(I)B" = some ⟨[.int], some .byte⟩ := by decide +kernel
theorem ef_0 (m : MethodId) (x0 : Int32) (x1 : Int32) (x2 : Int32) (x3 : Int32) (x4 : Int32) (x5 : Int32) : entryFrame m #[(.int x0), (.int x1), (.int x2), (.int x3), (.int x4), (.int x5)] maxLocals = mkF m 0 #[.val (.int x0), .val (.int x1), .val (.int x2), .val (.int x3), .val (.int x4), .val (.int x5), .unset, .unset, .unset, .unset, .unset, .unset, .unset, .unset] [] := by first | (simp [entryFrame, mkF, argsToLocals, Value.category, maxLocals]; done) | rfl
def f0 (p1 : Int32) (p2 : Int32) (p3 : Int32) (p4 : Int32) (p5 : Int32) (p6 : Int32) : Int32 := (if (own_k p4) < (2 : Int32) then (if (own_k p4) < (3 : Int32) then (if ((0 : Int32) + (1 : Int32)) = (own_k p4) then (if (f6 (0 : Int32) ([(0 : Int32), (0 : Int32), (0 : Int32), (0 : Int32), (0 : Int32), (0 : Int32), (0 : Int32), (0 : Int32)].set (((0 : Int32) &&& (65535 : Int32))).toNatClampNeg (nar .byte (p1.toInt8.toInt32)))) = (p1.toInt8.toInt32) then (1 : Int32) else (0 : Int32)) else (0 : Int32)) else (if (((0 : Int32) + (1 : Int32)) + (1 : Int32)) = (own_k p4) then (if (f6 (0 : Int32) (([(0 : Int32), (0 : Int32), (0 : Int32), (0 : Int32), (0 : Int32), (0 : Int32), (0 : Int32), (0 : Int32)].set (((0 : Int32) &&& (65535 : Int32))).toNatClampNeg (nar .byte (p1.toInt8.toInt32))).set ((((0 : Int32) + (1 : Int32)) &&& (65535 : Int32))).toNatClampNeg (nar .byte (p3.toInt8.toInt32)))) = (p1.toInt8.toInt32) then (if (f6 (2 : Int32) (([(0 : Int32), (0 : Int32), (0 : Int32), (0 : Int32), (0 : Int32), (0 : Int32), (0 : Int32), (0 : Int32)].set (((0 : Int32) &&& (65535 : Int32))).toNatClampNeg (nar .byte (p1.toInt8.toInt32))).set ((((0 : Int32) + (1 : Int32)) &&& (65535 : Int32))).toNatClampNeg (nar .byte (p3.toInt8.toInt32)))) = (p3.toInt8.toInt32) then (1 : Int32) else (0 : Int32)) else (0 : Int32)) else (0 : Int32))) else (if (own_k p4) < (3 : Int32) then (if (((0 : Int32) + (1 : Int32)) + (1 : Int32)) = (own_k p4) then (if (f6 (0 : Int32) (([(0 : Int32), (0 : Int32), (0 : Int32), (0 : Int32), (0 : Int32), (0 : Int32), (0 : Int32), (0 : Int32)].set (((0 : Int32) &&& (65535 : Int32))).toNatClampNeg (nar .byte (p1.toInt8.toInt32))).set ((((0 : Int32) + (1 : Int32)) &&& (65535 : Int32))).toNatClampNeg (nar .byte (p2.toInt8.toInt32)))) = (p1.toInt8.toInt32) then (if (f6 (1 : Int32) (([(0 : Int32), (0 : Int32), (0 : Int32), (0 : Int32), (0 : Int32), (0 : Int32), (0 : Int32), (0 : Int32)].set (((0 : Int32) &&& (65535 : Int32))).toNatClampNeg (nar .byte (p1.toInt8.toInt32))).set ((((0 : Int32) + (1 : Int32)) &&& (65535 : Int32))).toNatClampNeg (nar .byte (p2.toInt8.toInt32)))) = (p2.toInt8.toInt32) then (1 : Int32) else (0 : Int32)) else (0 : Int32)) else (0 : Int32)) else (if ((((0 : Int32) + (1 : Int32)) + (1 : Int32)) + (1 : Int32)) = (own_k p4) then (if (f6 (0 : Int32) ((([(0 : Int32), (0 : Int32), (0 : Int32), (0 : Int32), (0 : Int32), (0 : Int32), (0 : Int32), (0 : Int32)].set (((0 : Int32) &&& (65535 : Int32))).toNatClampNeg (nar .byte (p1.toInt8.toInt32))).set ((((0 : Int32) + (1 : Int32)) &&& (65535 : Int32))).toNatClampNeg (nar .byte (p2.toInt8.toInt32))).set (((((0 : Int32) + (1 : Int32)) + (1 : Int32)) &&& (65535 : Int32))).toNatClampNeg (nar .byte (p3.toInt8.toInt32)))) = (p1.toInt8.toInt32) then (if (f6 (1 : Int32) ((([(0 : Int32), (0 : Int32), (0 : Int32), (0 : Int32), (0 : Int32), (0 : Int32), (0 : Int32), (0 : Int32)].set (((0 : Int32) &&& (65535 : Int32))).toNatClampNeg (nar .byte (p1.toInt8.toInt32))).set ((((0 : Int32) + (1 : Int32)) &&& (65535 : Int32))).toNatClampNeg (nar .byte (p2.toInt8.toInt32))).set (((((0 : Int32) + (1 : Int32)) + (1 : Int32)) &&& (65535 : Int32))).toNatClampNeg (nar .byte (p3.toInt8.toInt32)))) = (p2.toInt8.toInt32) then (if (f6 (2 : Int32) ((([(0 : Int32), (0 : Int32), (0 : Int32), (0 : Int32), (0 : Int32), (0 : Int32), (0 : Int32), (0 : Int32)].set (((0 : Int32) &&& (65535 : Int32))).toNatClampNeg (nar .byte (p1.toInt8.toInt32))).set ((((0 : Int32) + (1 : Int32)) &&& (65535 : Int32))).toNatClampNeg (nar .byte (p2.toInt8.toInt32))).set (((((0 : Int32) + (1 : Int32)) + (1 : Int32)) &&& (65535 : Int32))).toNatClampNeg (nar .byte (p3.toInt8.toInt32)))) = (p3.toInt8.toInt32) then (1 : Int32) else (0 : Int32)) else (0 : Int32)) else (0 : Int32)) else (0 : Int32))))
def Q0 (Z : State) (p1 : Int32) (p2 : Int32) (p3 : Int32) (p4 : Int32) (p5 : Int32) (p6 : Int32) (h0 : Heap) (n0 : Nat) (v : Option Value) (h : Heap) (L : List Loc) : Prop := v = some (.int (f0 p1 p2 p3 p4 p5 p6)) ∧ Fr n0 L
set_option maxRecDepth 65536 in
set_option maxHeartbeats 40000000 in
theorem rm0 (l : Launch) (Z : State) (a0 : Array Value) (hw : ∀ d ∈ tables_1, d.before a0 Z = true) (ws : List Jvm.Cond) (p1 : Int32) (p2 : Int32) (p3 : Int32) (p4 : Int32) (p5 : Int32) (p6 : Int32) (h0 : Heap) (n0 : Nat) (Z0 : n0 ≤ h0.size) :
    MetFree l x (head1 (Jvm.Cond.code x code maxLocals ret :: ws) room_1) (fun a U => a = #[(.int p1), (.int p2), (.int p3), (.int p4), (.int p5), (.int p6)] ∧ Z.Warmed39 U.vm ∧ U.heap = h0) (fun _ _ _ _ _ => True) (fun _ U o U' => ∃ v L, o = .returned v ∧ Q0 Z p1 p2 p3 p4 p5 p6 h0 n0 v U'.heap L ∧ FrameEnd U o U' L room_1.cells room_1.slots) := by
  refine MetFree.of_bodySF (plainFor_of_name pn_0) hisR ?_
  intro p e s m args below meth c s₁ Bd hml0 hP hK
  obtain ⟨rfl, hZ, hh⟩ := hP
  have hx := Bd.exec
  have hby := Bd.bytes
  have hml : c.maxLocals = 14 := hml0
  have hown : s.vm.findClass "com/example/loadstone/loadstone/ByteChunksReleasePinLaw" = some m.cls := findClass_of_methodNamed Bd.named
  have hnm := (name_of_methodNamed Bd.named Bd.method).1
  have X0 : Stand p l e room_1 s m #[(.int p1), (.int p2), (.int p3), (.int p4), (.int p5), (.int p6)] below meth c s₁ [] 0 0 := Stand.of_body Bd
  have e0 : s₁.heap = h0 := by rw [← hh, Bd.state]; rfl
  have N0 := Fr.nil n0
  have pre0 : ∀ t, Steps p.tables e below (s₁.setTop (mkF m 0 #[.val (.int p1), .val (.int p2), .val (.int p3), .val (.int p4), .val (.int p5), .val (.int p6), .unset, .unset, .unset, .unset, .unset, .unset, .unset, .unset] [])) t → Steps p.tables e below (s₁.setTop (entryFrame m #[(.int p1), (.int p2), (.int p3), (.int p4), (.int p5), (.int p6)] maxLocals)) t := fun t k => castTop (ef_0 m p1 p2 p3 p4 p5 p6) k
  obtain ⟨T7, h7, X7, e7, E7, A7, D7, -, st7⟩ := newO X0 hx hZ hown (hw _ (List.mem_of_getElem? (i := 0) rfl)) (hw _ (List.mem_of_getElem? (i := 1) rfl)) (hw _ (List.mem_of_getElem? (i := 2) rfl)) e0 (g := (mkF m 0 #[.val (.int p1), .val (.int p2), .val (.int p3), .val (.int p4), .val (.int p5), .val (.int p6), .unset, .unset, .unset, .unset, .unset, .unset, .unset, .unset] [])) rfl (hb hby at_0) (by decide) (by decide)
  obtain ⟨b7, g7⟩ : ∃ z, z = h0.size := ⟨_, rfl⟩
  rw [← g7] at A7 D7 st7
  have g_b7 : n0 ≤ b7 := Nat.le_trans Z0 (Nat.le_of_eq g7.symm)
  have F_chunks_b7 : Fld Z h7 b7 "com/example/loadstone/loadstone/ByteChunks" "chunks" "[[B" .null := D7 (Or.inl (hw _ (List.mem_of_getElem? (i := 12) rfl))) (ty := (.array (.array .byte))) (by decide)
  have F_length_b7 : Fld Z h7 b7 "com/example/loadstone/loadstone/ByteChunks" "length" "I" (.int (0 : Int32)) := D7 (Or.inl (hw _ (List.mem_of_getElem? (i := 20) rfl))) (ty := .int) (by decide)
  have F_released_b7 : Fld Z h7 b7 "com/example/loadstone/loadstone/ByteChunks" "released" "I" (.int (0 : Int32)) := D7 (Or.inl (hw _ (List.mem_of_getElem? (i := 32) rfl))) (ty := .int) (by decide)
  have Zs9 : n0 ≤ h7.size := (Nat.le_trans Z0 E7.1)
  obtain ⟨_, _, ⟨T8, L8, k8, n8⟩, -, X8, ⟨Lc8, hQ8, l8, y8, z8⟩, st8⟩ := X7.specialBack hx (y := (⟨"com/example/loadstone/loadstone/ByteChunks", "<init>", "()V"⟩ : MethodName)) rfl hown (mvT hZ (hw _ (List.mem_of_getElem? (i := 3) rfl))) (mvT hZ (hw _ (List.mem_of_getElem? (i := 4) rfl))) (mvT hZ (hw _ (List.mem_of_getElem? (i := 5) rfl))) (by decide) (backOf (W := 1) (rm1 l Z a0 hw [] b7 .null (.int (0 : Int32)) (.int (0 : Int32)) h7 n0 Zs9 A7 F_chunks_b7 F_length_b7 F_released_b7 g_b7) hZ (hw _ (List.mem_of_getElem? (i := 5) rfl)) (hw _ (List.mem_of_getElem? (i := 2) rfl)) (by decide) (by decide)) (g := (mkF m 4 #[.val (.int p1), .val (.int p2), .val (.int p3), .val (.int p4), .val (.int p5), .val (.int p6), .unset, .unset, .unset, .unset, .unset, .unset, .unset, .unset] [(.ref b7), (.ref b7)])) rfl (by rw [hml]; rfl) (Steps.refl _) (a := b7) (argsL := []) (rest := [(.ref b7)]) (lenOf pd_0_0 rfl) rfl (by show 2 * 0 + _ ≤ _; exact Nat.le_of_eq rfl) (hb hby at_4) (fun _ _ => ⟨rfl, e7, (by decide : 1 + 1 ≤ _), (by decide : 3 + 1 ≤ _)⟩)
  dsimp only [Pt.U, Pt.locs, Pt.cells, Pt.slots] at X8 l8 y8 z8 st8 hQ8
  subst l8 y8 z8
  obtain ⟨b8_b3, k8_b3, g_b8_b3, sz_b8_b3, rfl, N8q, Kp8, qp8_0, qp8_1, qp8_2, qp8_3, qp8_4, qp8_5⟩ := hQ8
  have ne_b7_b8_b3 : b7 ≠ b8_b3 := Nat.ne_of_lt (Nat.lt_of_lt_of_le A7.lt sz_b8_b3)
  have N8 := Fr.app N0 N8q
  have Zs11 : n0 ≤ T8.heap.size := (Nat.le_trans Zs9 Kp8.1)
  obtain ⟨cq10, kq10, q10a, q10b, q10c⟩ := isOf hZ rfl qp8_0
  obtain ⟨_, _, ⟨T10, L10, k10, n10⟩, -, X10, ⟨Lc10, hQ10, l10, y10, z10⟩, st10⟩ := X8.virtualBack hx (y := (⟨"com/example/loadstone/loadstone/ByteChunks", "put", "(B)V"⟩ : MethodName)) (z := (⟨"com/example/loadstone/loadstone/ByteChunks", "put", "(B)V"⟩ : MethodName)) hown (mvT hZ (hw _ (List.mem_of_getElem? (i := 14) rfl))) (mvT hZ (hw _ (List.mem_of_getElem? (i := 15) rfl))) (notFace_of_selects (args := #[]) (mvT hZ (hw _ (List.mem_of_getElem? (i := 17) rfl)))) (mvT hZ (hw _ (List.mem_of_getElem? (i := 17) rfl))) (mvT hZ (hw _ (List.mem_of_getElem? (i := 16) rfl))) (by decide) (backOf (W := 0) (rm103 l Z a0 hw [] b7 (p1.toInt8.toInt32) b8_b3 (0 : Int32) (.int (0 : Int32)) k8_b3 T8.heap n0 Zs11 (by decide) qp8_0 qp8_1 qp8_2 qp8_3 qp8_4 qp8_5 ne_b7_b8_b3 g_b8_b3 ⟨by decide, by decide⟩ (by first | decide | (simp only [List.length_set]; decide)) g_b7) hZ (hw _ (List.mem_of_getElem? (i := 18) rfl)) (hw _ (List.mem_of_getElem? (i := 2) rfl)) (by decide) (by decide)) q10a q10c (g := (mkF m 35 #[.val (.int p1), .val (.int p2), .val (.int p3), .val (.int p4), .val (.int p5), .val (.int p6), .val (.ref b7), .val (.int (own_k p4)), .val (.int (p1.toInt8.toInt32)), .val (.int (p2.toInt8.toInt32)), .val (.int (p3.toInt8.toInt32)), .unset, .unset, .unset] [(.int (p1.toInt8.toInt32)), (.ref b7)])) rfl (by rw [hml]; rfl) (Steps.refl _) (argsL := [(.int (p1.toInt8.toInt32))]) (rest := []) (lenOf pd_0_1 rfl) rfl (by show 2 * 0 + _ ≤ _; exact Nat.le_of_eq rfl) (hb hby at_35) (fun _ _ => ⟨rfl, rfl, (by decide : 2 + 1 ≤ _), (by decide : 4 + 65536 ≤ _)⟩)
  dsimp only [Pt.U, Pt.locs, Pt.cells, Pt.slots] at X10 l10 y10 z10 st10 hQ10
  subst l10 y10 z10
  obtain ⟨b10_b9, k10_b9, g_b10_b9, sz_b10_b9, rfl, N10q, Kp10, qp10_0, qp10_1, qp10_2, qp10_3, qp10_4, qp10_5, qp10_6⟩ := hQ10
  have ne_b7_b10_b9 : b7 ≠ b10_b9 := Nat.ne_of_lt (Nat.lt_of_lt_of_le qp8_0.lt sz_b10_b9)
  have ne_b8_b3_b10_b9 : b8_b3 ≠ b10_b9 := Nat.ne_of_lt (Nat.lt_of_lt_of_le qp8_4.lt sz_b10_b9)
  have N10 := Fr.app N8 N10q
  have pre12 : ∀ t, Steps p.tables e below (T10.setTop (mkF m 41 #[.val (.int p1), .val (.int p2), .val (.int p3), .val (.int p4), .val (.int p5), .val (.int p6), .val (.ref b7), .val (.int (own_k p4)), .val (.int (p1.toInt8.toInt32)), .val (.int (p2.toInt8.toInt32)), .val (.int (p3.toInt8.toInt32)), .unset, .unset, .unset] [(.int (2 : Int32)), (.int (own_k p4))])) t → Steps p.tables e below (s₁.setTop (entryFrame m #[(.int p1), (.int p2), (.int p3), (.int p4), (.int p5), (.int p6)] maxLocals)) t := fun t kt => by
    refine pre0 _ ?_
    show Steps p.tables e below (s₁.setTop (mkF m 0 #[.val (.int p1), .val (.int p2), .val (.int p3), .val (.int p4), .val (.int p5), .val (.int p6), .unset, .unset, .unset, .unset, .unset, .unset, .unset, .unset] [])) _
    refine st7 _ ?_
    show Steps p.tables e below (T7.setTop (mkF m 3 _ [(.ref b7)])) _
    refine XS.dup X7.here hx rfl (hb hby at_3) rfl rfl ?_
    show Steps p.tables e below (T7.setTop (mkF m 4 _ [(.ref b7), (.ref b7)])) _
    refine st8.trans ?_
    show Steps p.tables e below (T8.setTop (mkF m 7 _ [(.ref b7)])) _
    refine XS.astore X8.here hx rfl (hb hby at_7) rfl rfl (l' := #[.val (.int p1), .val (.int p2), .val (.int p3), .val (.int p4), .val (.int p5), .val (.int p6), .val (.ref b7), .unset, .unset, .unset, .unset, .unset, .unset, .unset]) rfl ?_
    show Steps p.tables e below (T8.setTop (mkF m 9 _ [])) _
    refine XS.iconst X8.here hx rfl (hb hby at_9) ?_
    show Steps p.tables e below (T8.setTop (mkF m 10 _ [(.int (1 : Int32))])) _
    refine XS.iloadN X8.here hx rfl (hb hby at_10) rfl ?_
    show Steps p.tables e below (T8.setTop (mkF m 11 _ [(.int p4), (.int (1 : Int32))])) _
    refine X8.ldcInt hx hown (mvT hZ (hw _ (List.mem_of_getElem? (i := 13) rfl))) (g := (mkF m 11 #[.val (.int p1), .val (.int p2), .val (.int p3), .val (.int p4), .val (.int p5), .val (.int p6), .val (.ref b7), .unset, .unset, .unset, .unset, .unset, .unset, .unset] [(.int p4), (.int (1 : Int32))])) rfl (hb hby at_11) _ ?_
    show Steps p.tables e below (T8.setTop (mkF m 13 _ [(.int (2147483647 : Int32)), (.int p4), (.int (1 : Int32))])) _
    refine XS.iand X8.here hx rfl (hb hby at_13) rfl ?_
    show Steps p.tables e below (T8.setTop (mkF m 14 _ [(.int (p4 &&& (2147483647 : Int32))), (.int (1 : Int32))])) _
    refine XS.iconst X8.here hx rfl (hb hby at_14) ?_
    show Steps p.tables e below (T8.setTop (mkF m 15 _ [(.int (3 : Int32)), (.int (p4 &&& (2147483647 : Int32))), (.int (1 : Int32))])) _
    refine XS.irem X8.here hx rfl (hb hby at_15) rfl (by decide) ?_
    show Steps p.tables e below (T8.setTop (mkF m 16 _ [(.int ((p4 &&& (2147483647 : Int32)) - ((p4 &&& (2147483647 : Int32)) / (3 : Int32)) * (3 : Int32))), (.int (1 : Int32))])) _
    refine XS.iadd X8.here hx rfl (hb hby at_16) rfl ?_
    show Steps p.tables e below (T8.setTop (mkF m 17 _ [(.int (own_k p4))])) _
    refine XS.istore X8.here hx rfl (hb hby at_17) rfl (l' := #[.val (.int p1), .val (.int p2), .val (.int p3), .val (.int p4), .val (.int p5), .val (.int p6), .val (.ref b7), .val (.int (own_k p4)), .unset, .unset, .unset, .unset, .unset, .unset]) rfl ?_
    show Steps p.tables e below (T8.setTop (mkF m 19 _ [])) _
    refine XS.iloadN X8.here hx rfl (hb hby at_19) rfl ?_
    show Steps p.tables e below (T8.setTop (mkF m 20 _ [(.int p1)])) _
    refine XS.i2b X8.here hx rfl (hb hby at_20) rfl ?_
    show Steps p.tables e below (T8.setTop (mkF m 21 _ [(.int (p1.toInt8.toInt32))])) _
    refine XS.istore X8.here hx rfl (hb hby at_21) rfl (l' := #[.val (.int p1), .val (.int p2), .val (.int p3), .val (.int p4), .val (.int p5), .val (.int p6), .val (.ref b7), .val (.int (own_k p4)), .val (.int (p1.toInt8.toInt32)), .unset, .unset, .unset, .unset, .unset]) rfl ?_
    show Steps p.tables e below (T8.setTop (mkF m 23 _ [])) _
    refine XS.iloadN X8.here hx rfl (hb hby at_23) rfl ?_
    show Steps p.tables e below (T8.setTop (mkF m 24 _ [(.int p2)])) _
    refine XS.i2b X8.here hx rfl (hb hby at_24) rfl ?_
    show Steps p.tables e below (T8.setTop (mkF m 25 _ [(.int (p2.toInt8.toInt32))])) _
    refine XS.istore X8.here hx rfl (hb hby at_25) rfl (l' := #[.val (.int p1), .val (.int p2), .val (.int p3), .val (.int p4), .val (.int p5), .val (.int p6), .val (.ref b7), .val (.int (own_k p4)), .val (.int (p1.toInt8.toInt32)), .val (.int (p2.toInt8.toInt32)), .unset, .unset, .unset, .unset]) rfl ?_
    show Steps p.tables e below (T8.setTop (mkF m 27 _ [])) _
    refine XS.iloadN X8.here hx rfl (hb hby at_27) rfl ?_
    show Steps p.tables e below (T8.setTop (mkF m 28 _ [(.int p3)])) _
    refine XS.i2b X8.here hx rfl (hb hby at_28) rfl ?_
    show Steps p.tables e below (T8.setTop (mkF m 29 _ [(.int (p3.toInt8.toInt32))])) _
    refine XS.istore X8.here hx rfl (hb hby at_29) rfl (l' := #[.val (.int p1), .val (.int p2), .val (.int p3), .val (.int p4), .val (.int p5), .val (.int p6), .val (.ref b7), .val (.int (own_k p4)), .val (.int (p1.toInt8.toInt32)), .val (.int (p2.toInt8.toInt32)), .val (.int (p3.toInt8.toInt32)), .unset, .unset, .unset]) rfl ?_
    show Steps p.tables e below (T8.setTop (mkF m 31 _ [])) _
    refine XS.aload X8.here hx rfl (hb hby at_31) rfl rfl ?_
    show Steps p.tables e below (T8.setTop (mkF m 33 _ [(.ref b7)])) _
    refine XS.iload X8.here hx rfl (hb hby at_33) rfl ?_
    show Steps p.tables e below (T8.setTop (mkF m 35 _ [(.int (p1.toInt8.toInt32)), (.ref b7)])) _
    refine st10.trans ?_
    show Steps p.tables e below (T10.setTop (mkF m 38 _ [])) _
    refine XS.iload X10.here hx rfl (hb hby at_38) rfl ?_
    show Steps p.tables e below (T10.setTop (mkF m 40 _ [(.int (own_k p4))])) _
    refine XS.iconst X10.here hx rfl (hb hby at_40) ?_
    exact kt
  by_cases hc13 : (own_k p4) < (2 : Int32)
  · skip
    have pre14 : ∀ t, Steps p.tables e below (T10.setTop (mkF m 54 #[.val (.int p1), .val (.int p2), .val (.int p3), .val (.int p4), .val (.int p5), .val (.int p6), .val (.ref b7), .val (.int (own_k p4)), .val (.int (p1.toInt8.toInt32)), .val (.int (p2.toInt8.toInt32)), .val (.int (p3.toInt8.toInt32)), .unset, .unset, .unset] [(.int (3 : Int32)), (.int (own_k p4))])) t → Steps p.tables e below (s₁.setTop (entryFrame m #[(.int p1), (.int p2), (.int p3), (.int p4), (.int p5), (.int p6)] maxLocals)) t := fun t kt => by
      refine pre12 _ ?_
      show Steps p.tables e below (T10.setTop (mkF m 41 #[.val (.int p1), .val (.int p2), .val (.int p3), .val (.int p4), .val (.int p5), .val (.int p6), .val (.ref b7), .val (.int (own_k p4)), .val (.int (p1.toInt8.toInt32)), .val (.int (p2.toInt8.toInt32)), .val (.int (p3.toInt8.toInt32)), .unset, .unset, .unset] [(.int (2 : Int32)), (.int (own_k p4))])) _
      refine XS.icmpYes X10.here hx rfl (pc0 := 41) (pc' := 51) rfl (hb hby at_41) rfl (tlt hc13).1 (by decide) (by decide) ?_
      show Steps p.tables e below (T10.setTop (mkF m 51 _ [])) _
      refine XS.iload X10.here hx rfl (hb hby at_51) rfl ?_
      show Steps p.tables e below (T10.setTop (mkF m 53 _ [(.int (own_k p4))])) _
      refine XS.iconst X10.here hx rfl (hb hby at_53) ?_
      exact kt
    by_cases hc15 : (own_k p4) < (3 : Int32)
    · skip
      have Zs17 : n0 ≤ T10.heap.size := (Nat.le_trans Zs11 Kp10.1)
      obtain ⟨cq16, kq16, q16a, q16b, q16c⟩ := isOf hZ rfl qp10_0
      obtain ⟨_, _, ⟨T16, L16, k16, n16⟩, -, X16, ⟨Lc16, hQ16, l16, y16, z16⟩, st16⟩ := X10.virtualBack hx (y := (⟨"com/example/loadstone/loadstone/ByteChunks", "release", "(I)V"⟩ : MethodName)) (z := (⟨"com/example/loadstone/loadstone/ByteChunks", "release", "(I)V"⟩ : MethodName)) hown (mvT hZ (hw _ (List.mem_of_getElem? (i := 26) rfl))) (mvT hZ (hw _ (List.mem_of_getElem? (i := 27) rfl))) (notFace_of_selects (args := #[]) (mvT hZ (hw _ (List.mem_of_getElem? (i := 29) rfl)))) (mvT hZ (hw _ (List.mem_of_getElem? (i := 29) rfl))) (mvT hZ (hw _ (List.mem_of_getElem? (i := 28) rfl))) (by decide) (backOf (W := 0) (rm4 l Z a0 hw [] b7 (p5 &&& (65535 : Int32)) (0 : Int32) T10.heap n0 Zs17 (own_rel p5) qp10_3) hZ (hw _ (List.mem_of_getElem? (i := 30) rfl)) (hw _ (List.mem_of_getElem? (i := 2) rfl)) (by decide) (by decide)) q16a q16c (g := (mkF m 82 #[.val (.int p1), .val (.int p2), .val (.int p3), .val (.int p4), .val (.int p5), .val (.int p6), .val (.ref b7), .val (.int (own_k p4)), .val (.int (p1.toInt8.toInt32)), .val (.int (p2.toInt8.toInt32)), .val (.int (p3.toInt8.toInt32)), .val (.int (p5 &&& (65535 : Int32))), .val (.int (p6 &&& (65535 : Int32))), .unset] [(.int (p5 &&& (65535 : Int32))), (.ref b7)])) rfl (by rw [hml]; rfl) (Steps.refl _) (argsL := [(.int (p5 &&& (65535 : Int32)))]) (rest := []) (lenOf pd_0_2 rfl) rfl (by show 2 * 0 + _ ≤ _; exact Nat.le_of_eq rfl) (hb hby at_82) (fun _ _ => ⟨rfl, rfl, (by decide : 3 + 0 ≤ _), (by decide : 65540 + 0 ≤ _)⟩)
      dsimp only [Pt.U, Pt.locs, Pt.cells, Pt.slots] at X16 l16 y16 z16 st16 hQ16
      subst l16 y16 z16
      obtain ⟨rfl, N16q, e16⟩ := hQ16
      have N16 := Fr.app N10 N16q
      obtain ⟨cq18, kq18, q18a, q18b, q18c⟩ := isOf hZ e16 qp10_0
      obtain ⟨_, _, ⟨T18, L18, k18, n18⟩, -, X18, ⟨Lc18, hQ18, l18, y18, z18⟩, st18⟩ := X16.virtualBack hx (y := (⟨"com/example/loadstone/loadstone/ByteChunks", "release", "(I)V"⟩ : MethodName)) (z := (⟨"com/example/loadstone/loadstone/ByteChunks", "release", "(I)V"⟩ : MethodName)) hown (mvT hZ (hw _ (List.mem_of_getElem? (i := 26) rfl))) (mvT hZ (hw _ (List.mem_of_getElem? (i := 27) rfl))) (notFace_of_selects (args := #[]) (mvT hZ (hw _ (List.mem_of_getElem? (i := 29) rfl)))) (mvT hZ (hw _ (List.mem_of_getElem? (i := 29) rfl))) (mvT hZ (hw _ (List.mem_of_getElem? (i := 28) rfl))) (by decide) (backOf (W := 0) (rm4 l Z a0 hw [] b7 (p6 &&& (65535 : Int32)) (0 : Int32) T10.heap n0 Zs17 (own_rel p6) qp10_3) hZ (hw _ (List.mem_of_getElem? (i := 30) rfl)) (hw _ (List.mem_of_getElem? (i := 2) rfl)) (by decide) (by decide)) q18a q18c (g := (mkF m 89 #[.val (.int p1), .val (.int p2), .val (.int p3), .val (.int p4), .val (.int p5), .val (.int p6), .val (.ref b7), .val (.int (own_k p4)), .val (.int (p1.toInt8.toInt32)), .val (.int (p2.toInt8.toInt32)), .val (.int (p3.toInt8.toInt32)), .val (.int (p5 &&& (65535 : Int32))), .val (.int (p6 &&& (65535 : Int32))), .unset] [(.int (p6 &&& (65535 : Int32))), (.ref b7)])) rfl (by rw [hml]; rfl) (Steps.refl _) (argsL := [(.int (p6 &&& (65535 : Int32)))]) (rest := []) (lenOf pd_0_2 rfl) rfl (by show 2 * 0 + _ ≤ _; exact Nat.le_of_eq rfl) (hb hby at_89) (fun _ _ => ⟨rfl, e16, (by decide : 3 + 0 ≤ _), (by decide : 65540 + 0 ≤ _)⟩)
      dsimp only [Pt.U, Pt.locs, Pt.cells, Pt.slots] at X18 l18 y18 z18 st18 hQ18
      subst l18 y18 z18
      obtain ⟨rfl, N18q, e18⟩ := hQ18
      have N18 := Fr.app N16 N18q
      obtain ⟨cq19, kq19, q19a, q19b, q19c⟩ := isOf hZ e18 qp10_0
      obtain ⟨_, _, ⟨T19, L19, k19, n19⟩, -, X19, ⟨Lc19, hQ19, l19, y19, z19⟩, st19⟩ := X18.virtualBack hx (y := (⟨"com/example/loadstone/loadstone/ByteChunks", "length", "()I"⟩ : MethodName)) (z := (⟨"com/example/loadstone/loadstone/ByteChunks", "length", "()I"⟩ : MethodName)) hown (mvT hZ (hw _ (List.mem_of_getElem? (i := 33) rfl))) (mvT hZ (hw _ (List.mem_of_getElem? (i := 34) rfl))) (notFace_of_selects (args := #[]) (mvT hZ (hw _ (List.mem_of_getElem? (i := 36) rfl)))) (mvT hZ (hw _ (List.mem_of_getElem? (i := 36) rfl))) (mvT hZ (hw _ (List.mem_of_getElem? (i := 35) rfl))) (by decide) (backOf (W := 0) (rm5 l Z a0 hw [] b7 ((0 : Int32) + (1 : Int32)) T10.heap n0 Zs17 qp10_2) hZ (hw _ (List.mem_of_getElem? (i := 37) rfl)) (hw _ (List.mem_of_getElem? (i := 2) rfl)) (by decide) (by decide)) q19a q19c (g := (mkF m 94 #[.val (.int p1), .val (.int p2), .val (.int p3), .val (.int p4), .val (.int p5), .val (.int p6), .val (.ref b7), .val (.int (own_k p4)), .val (.int (p1.toInt8.toInt32)), .val (.int (p2.toInt8.toInt32)), .val (.int (p3.toInt8.toInt32)), .val (.int (p5 &&& (65535 : Int32))), .val (.int (p6 &&& (65535 : Int32))), .unset] [(.ref b7)])) rfl (by rw [hml]; rfl) (Steps.refl _) (argsL := []) (rest := []) (lenOf pd_0_3 rfl) rfl (by show 2 * 0 + _ ≤ _; exact Nat.le_of_eq rfl) (hb hby at_94) (fun _ _ => ⟨rfl, e18, (by decide : 3 + 0 ≤ _), (by decide : 65540 + 0 ≤ _)⟩)
      dsimp only [Pt.U, Pt.locs, Pt.cells, Pt.slots] at X19 l19 y19 z19 st19 hQ19
      subst l19 y19 z19
      obtain ⟨rfl, N19q, e19⟩ := hQ19
      have N19 := Fr.app N18 N19q
      have pre20 : ∀ t, Steps p.tables e below (T19.setTop (mkF m 99 #[.val (.int p1), .val (.int p2), .val (.int p3), .val (.int p4), .val (.int p5), .val (.int p6), .val (.ref b7), .val (.int (own_k p4)), .val (.int (p1.toInt8.toInt32)), .val (.int (p2.toInt8.toInt32)), .val (.int (p3.toInt8.toInt32)), .val (.int (p5 &&& (65535 : Int32))), .val (.int (p6 &&& (65535 : Int32))), .unset] [(.int (own_k p4)), (.int ((0 : Int32) + (1 : Int32)))])) t → Steps p.tables e below (s₁.setTop (entryFrame m #[(.int p1), (.int p2), (.int p3), (.int p4), (.int p5), (.int p6)] maxLocals)) t := fun t kt => by
        refine pre14 _ ?_
        show Steps p.tables e below (T10.setTop (mkF m 54 #[.val (.int p1), .val (.int p2), .val (.int p3), .val (.int p4), .val (.int p5), .val (.int p6), .val (.ref b7), .val (.int (own_k p4)), .val (.int (p1.toInt8.toInt32)), .val (.int (p2.toInt8.toInt32)), .val (.int (p3.toInt8.toInt32)), .unset, .unset, .unset] [(.int (3 : Int32)), (.int (own_k p4))])) _
        refine XS.icmpYes X10.here hx rfl (pc0 := 54) (pc' := 64) rfl (hb hby at_54) rfl (tlt hc15).1 (by decide) (by decide) ?_
        show Steps p.tables e below (T10.setTop (mkF m 64 _ [])) _
        refine XS.iload X10.here hx rfl (hb hby at_64) rfl ?_
        show Steps p.tables e below (T10.setTop (mkF m 66 _ [(.int p5)])) _
        refine X10.ldcInt hx hown (mvT hZ (hw _ (List.mem_of_getElem? (i := 25) rfl))) (g := (mkF m 66 #[.val (.int p1), .val (.int p2), .val (.int p3), .val (.int p4), .val (.int p5), .val (.int p6), .val (.ref b7), .val (.int (own_k p4)), .val (.int (p1.toInt8.toInt32)), .val (.int (p2.toInt8.toInt32)), .val (.int (p3.toInt8.toInt32)), .unset, .unset, .unset] [(.int p5)])) rfl (hb hby at_66) _ ?_
        show Steps p.tables e below (T10.setTop (mkF m 68 _ [(.int (65535 : Int32)), (.int p5)])) _
        refine XS.iand X10.here hx rfl (hb hby at_68) rfl ?_
        show Steps p.tables e below (T10.setTop (mkF m 69 _ [(.int (p5 &&& (65535 : Int32)))])) _
        refine XS.istore X10.here hx rfl (hb hby at_69) rfl (l' := #[.val (.int p1), .val (.int p2), .val (.int p3), .val (.int p4), .val (.int p5), .val (.int p6), .val (.ref b7), .val (.int (own_k p4)), .val (.int (p1.toInt8.toInt32)), .val (.int (p2.toInt8.toInt32)), .val (.int (p3.toInt8.toInt32)), .val (.int (p5 &&& (65535 : Int32))), .unset, .unset]) rfl ?_
        show Steps p.tables e below (T10.setTop (mkF m 71 _ [])) _
        refine XS.iload X10.here hx rfl (hb hby at_71) rfl ?_
        show Steps p.tables e below (T10.setTop (mkF m 73 _ [(.int p6)])) _
        refine X10.ldcInt hx hown (mvT hZ (hw _ (List.mem_of_getElem? (i := 25) rfl))) (g := (mkF m 73 #[.val (.int p1), .val (.int p2), .val (.int p3), .val (.int p4), .val (.int p5), .val (.int p6), .val (.ref b7), .val (.int (own_k p4)), .val (.int (p1.toInt8.toInt32)), .val (.int (p2.toInt8.toInt32)), .val (.int (p3.toInt8.toInt32)), .val (.int (p5 &&& (65535 : Int32))), .unset, .unset] [(.int p6)])) rfl (hb hby at_73) _ ?_
        show Steps p.tables e below (T10.setTop (mkF m 75 _ [(.int (65535 : Int32)), (.int p6)])) _
        refine XS.iand X10.here hx rfl (hb hby at_75) rfl ?_
        show Steps p.tables e below (T10.setTop (mkF m 76 _ [(.int (p6 &&& (65535 : Int32)))])) _
        refine XS.istore X10.here hx rfl (hb hby at_76) rfl (l' := #[.val (.int p1), .val (.int p2), .val (.int p3), .val (.int p4), .val (.int p5), .val (.int p6), .val (.ref b7), .val (.int (own_k p4)), .val (.int (p1.toInt8.toInt32)), .val (.int (p2.toInt8.toInt32)), .val (.int (p3.toInt8.toInt32)), .val (.int (p5 &&& (65535 : Int32))), .val (.int (p6 &&& (65535 : Int32))), .unset]) rfl ?_
        show Steps p.tables e below (T10.setTop (mkF m 78 _ [])) _
        refine XS.aload X10.here hx rfl (hb hby at_78) rfl rfl ?_
        show Steps p.tables e below (T10.setTop (mkF m 80 _ [(.ref b7)])) _
        refine XS.iload X10.here hx rfl (hb hby at_80) rfl ?_
        show Steps p.tables e below (T10.setTop (mkF m 82 _ [(.int (p5 &&& (65535 : Int32))), (.ref b7)])) _
        refine st16.trans ?_
        show Steps p.tables e below (T16.setTop (mkF m 85 _ [])) _
        refine XS.aload X16.here hx rfl (hb hby at_85) rfl rfl ?_
        show Steps p.tables e below (T16.setTop (mkF m 87 _ [(.ref b7)])) _
        refine XS.iload X16.here hx rfl (hb hby at_87) rfl ?_
        show Steps p.tables e below (T16.setTop (mkF m 89 _ [(.int (p6 &&& (65535 : Int32))), (.ref b7)])) _
        refine st18.trans ?_
        show Steps p.tables e below (T18.setTop (mkF m 92 _ [])) _
        refine XS.aload X18.here hx rfl (hb hby at_92) rfl rfl ?_
        show Steps p.tables e below (T18.setTop (mkF m 94 _ [(.ref b7)])) _
        refine st19.trans ?_
        show Steps p.tables e below (T19.setTop (mkF m 97 _ [(.int ((0 : Int32) + (1 : Int32)))])) _
        refine XS.iload X19.here hx rfl (hb hby at_97) rfl ?_
        exact kt
      by_cases hc21 : ((0 : Int32) + (1 : Int32)) = (own_k p4)
      · skip
        obtain ⟨cq22, kq22, q22a, q22b, q22c⟩ := isOf hZ e19 qp10_0
        obtain ⟨_, _, ⟨T22, L22, k22, n22⟩, -, X22, ⟨Lc22, hQ22, l22, y22, z22⟩, st22⟩ := X19.virtualBack hx (y := (⟨"com/example/loadstone/loadstone/ByteChunks", "at", "(I)B"⟩ : MethodName)) (z := (⟨"com/example/loadstone/loadstone/ByteChunks", "at", "(I)B"⟩ : MethodName)) hown (mvT hZ (hw _ (List.mem_of_getElem? (i := 38) rfl))) (mvT hZ (hw _ (List.mem_of_getElem? (i := 39) rfl))) (notFace_of_selects (args := #[]) (mvT hZ (hw _ (List.mem_of_getElem? (i := 41) rfl)))) (mvT hZ (hw _ (List.mem_of_getElem? (i := 41) rfl))) (mvT hZ (hw _ (List.mem_of_getElem? (i := 40) rfl))) (by decide) (backOf (W := 0) (rm6 l Z a0 hw [] b7 (0 : Int32) b8_b3 k8_b3 b10_b9 k10_b9 ([(0 : Int32), (0 : Int32), (0 : Int32), (0 : Int32), (0 : Int32), (0 : Int32), (0 : Int32), (0 : Int32)].set (((0 : Int32) &&& (65535 : Int32))).toNatClampNeg (nar .byte (p1.toInt8.toInt32))) (65536 : Int32) T10.heap n0 Zs17 (by decide) qp10_1 qp10_4 qp10_5 qp10_6 ⟨by decide, by decide⟩) hZ (hw _ (List.mem_of_getElem? (i := 42) rfl)) (hw _ (List.mem_of_getElem? (i := 2) rfl)) (by decide) (by decide)) q22a q22c (g := (mkF m 105 #[.val (.int p1), .val (.int p2), .val (.int p3), .val (.int p4), .val (.int p5), .val (.int p6), .val (.ref b7), .val (.int (own_k p4)), .val (.int (p1.toInt8.toInt32)), .val (.int (p2.toInt8.toInt32)), .val (.int (p3.toInt8.toInt32)), .val (.int (p5 &&& (65535 : Int32))), .val (.int (p6 &&& (65535 : Int32))), .unset] [(.int (0 : Int32)), (.ref b7)])) rfl (by rw [hml]; rfl) (Steps.refl _) (argsL := [(.int (0 : Int32))]) (rest := []) (lenOf pd_0_4 rfl) rfl (by show 2 * 0 + _ ≤ _; exact Nat.le_of_eq rfl) (hb hby at_105) (fun _ _ => ⟨rfl, e19, (by decide : 3 + 0 ≤ _), (by decide : 65540 + 0 ≤ _)⟩)
        dsimp only [Pt.U, Pt.locs, Pt.cells, Pt.slots] at X22 l22 y22 z22 st22 hQ22
        subst l22 y22 z22
        obtain ⟨rfl, N22q, e22⟩ := hQ22
        have N22 := Fr.app N19 N22q
        have pre23 : ∀ t, Steps p.tables e below (T22.setTop (mkF m 110 #[.val (.int p1), .val (.int p2), .val (.int p3), .val (.int p4), .val (.int p5), .val (.int p6), .val (.ref b7), .val (.int (own_k p4)), .val (.int (p1.toInt8.toInt32)), .val (.int (p2.toInt8.toInt32)), .val (.int (p3.toInt8.toInt32)), .val (.int (p5 &&& (65535 : Int32))), .val (.int (p6 &&& (65535 : Int32))), .unset] [(.int (p1.toInt8.toInt32)), (.int (f6 (0 : Int32) ([(0 : Int32), (0 : Int32), (0 : Int32), (0 : Int32), (0 : Int32), (0 : Int32), (0 : Int32), (0 : Int32)].set (((0 : Int32) &&& (65535 : Int32))).toNatClampNeg (nar .byte (p1.toInt8.toInt32)))))])) t → Steps p.tables e below (s₁.setTop (entryFrame m #[(.int p1), (.int p2), (.int p3), (.int p4), (.int p5), (.int p6)] maxLocals)) t := fun t kt => by
          refine pre20 _ ?_
          show Steps p.tables e below (T19.setTop (mkF m 99 #[.val (.int p1), .val (.int p2), .val (.int p3), .val (.int p4), .val (.int p5), .val (.int p6), .val (.ref b7), .val (.int (own_k p4)), .val (.int (p1.toInt8.toInt32)), .val (.int (p2.toInt8.toInt32)), .val (.int (p3.toInt8.toInt32)), .val (.int (p5 &&& (65535 : Int32))), .val (.int (p6 &&& (65535 : Int32))), .unset] [(.int (own_k p4)), (.int ((0 : Int32) + (1 : Int32)))])) _
          refine XS.icmpNo X19.here hx rfl (hb hby at_99) rfl (teq hc21).2 ?_
          show Steps p.tables e below (T19.setTop (mkF m 102 _ [])) _
          refine XS.aload X19.here hx rfl (hb hby at_102) rfl rfl ?_
          show Steps p.tables e below (T19.setTop (mkF m 104 _ [(.ref b7)])) _
          refine XS.iconst X19.here hx rfl (hb hby at_104) ?_
          show Steps p.tables e below (T19.setTop (mkF m 105 _ [(.int (0 : Int32)), (.ref b7)])) _
          refine st22.trans ?_
          show Steps p.tables e below (T22.setTop (mkF m 108 _ [(.int (f6 (0 : Int32) ([(0 : Int32), (0 : Int32), (0 : Int32), (0 : Int32), (0 : Int32), (0 : Int32), (0 : Int32), (0 : Int32)].set (((0 : Int32) &&& (65535 : Int32))).toNatClampNeg (nar .byte (p1.toInt8.toInt32)))))])) _
          refine XS.iload X22.here hx rfl (hb hby at_108) rfl ?_
          exact kt
        by_cases hc24 : (f6 (0 : Int32) ([(0 : Int32), (0 : Int32), (0 : Int32), (0 : Int32), (0 : Int32), (0 : Int32), (0 : Int32), (0 : Int32)].set (((0 : Int32) &&& (65535 : Int32))).toNatClampNeg (nar .byte (p1.toInt8.toInt32)))) = (p1.toInt8.toInt32)
        · skip
          obtain ⟨fs, hr, hrun, hended, hW, hsame⟩ := X22.leave (v := some (.int (1 : Int32))) (fun h => by rw [Bd.returns] at h; cases h) (by first | exact BodyLoose.notSynchronized Bd | exact Body.notSynchronized Bd)
          refine ⟨_, _, pre23 _ ?_, hrun, hended, _, _, rfl, ?_, ⟨_, rfl⟩, hW, hsame.mono (by decide) (by decide)⟩
          · show Steps p.tables e below (T22.setTop (mkF m 110 #[.val (.int p1), .val (.int p2), .val (.int p3), .val (.int p4), .val (.int p5), .val (.int p6), .val (.ref b7), .val (.int (own_k p4)), .val (.int (p1.toInt8.toInt32)), .val (.int (p2.toInt8.toInt32)), .val (.int (p3.toInt8.toInt32)), .val (.int (p5 &&& (65535 : Int32))), .val (.int (p6 &&& (65535 : Int32))), .unset] [(.int (p1.toInt8.toInt32)), (.int (f6 (0 : Int32) ([(0 : Int32), (0 : Int32), (0 : Int32), (0 : Int32), (0 : Int32), (0 : Int32), (0 : Int32), (0 : Int32)].set (((0 : Int32) &&& (65535 : Int32))).toNatClampNeg (nar .byte (p1.toInt8.toInt32)))))])) _
            refine XS.icmpNo X22.here hx rfl (hb hby at_110) rfl (teq hc24).2 ?_
            show Steps p.tables e below (T22.setTop (mkF m 113 _ [])) _
            refine XS.iconst X22.here hx rfl (hb hby at_113) ?_
            show Steps p.tables e below (T22.setTop (mkF m 114 _ [(.int (1 : Int32))])) _
            refine XS.goto X22.here hx rfl (pc0 := 114) (pc' := 118) rfl (hb hby at_114) (by decide) (by decide) ?_
            show Steps p.tables e below (T22.setTop (mkF m 118 _ [(.int (1 : Int32))])) _
            refine XS.istore X22.here hx rfl (hb hby at_118) rfl (l' := #[.val (.int p1), .val (.int p2), .val (.int p3), .val (.int p4), .val (.int p5), .val (.int p6), .val (.ref b7), .val (.int (own_k p4)), .val (.int (p1.toInt8.toInt32)), .val (.int (p2.toInt8.toInt32)), .val (.int (p3.toInt8.toInt32)), .val (.int (p5 &&& (65535 : Int32))), .val (.int (p6 &&& (65535 : Int32))), .val (.int (1 : Int32))]) rfl ?_
            show Steps p.tables e below (T22.setTop (mkF m 120 _ [])) _
            refine XS.iload X22.here hx rfl (hb hby at_120) rfl ?_
            show Steps p.tables e below (T22.setTop (mkF m 122 _ [(.int (own_k p4))])) _
            refine XS.iconst X22.here hx rfl (hb hby at_122) ?_
            show Steps p.tables e below (T22.setTop (mkF m 123 _ [(.int (2 : Int32)), (.int (own_k p4))])) _
            refine XS.icmpYes X22.here hx rfl (pc0 := 123) (pc' := 149) rfl (hb hby at_123) rfl (tlt hc13).1 (by decide) (by decide) ?_
            show Steps p.tables e below (T22.setTop (mkF m 149 _ [])) _
            refine XS.iload X22.here hx rfl (hb hby at_149) rfl ?_
            show Steps p.tables e below (T22.setTop (mkF m 151 _ [(.int (own_k p4))])) _
            refine XS.iconst X22.here hx rfl (hb hby at_151) ?_
            show Steps p.tables e below (T22.setTop (mkF m 152 _ [(.int (3 : Int32)), (.int (own_k p4))])) _
            refine XS.icmpYes X22.here hx rfl (pc0 := 152) (pc' := 178) rfl (hb hby at_152) rfl (tlt hc15).1 (by decide) (by decide) ?_
            show Steps p.tables e below (T22.setTop (mkF m 178 _ [])) _
            refine XS.iload X22.here hx rfl (hb hby at_178) rfl ?_
            show Steps p.tables e below (T22.setTop (mkF m 180 #[.val (.int p1), .val (.int p2), .val (.int p3), .val (.int p4), .val (.int p5), .val (.int p6), .val (.ref b7), .val (.int (own_k p4)), .val (.int (p1.toInt8.toInt32)), .val (.int (p2.toInt8.toInt32)), .val (.int (p3.toInt8.toInt32)), .val (.int (p5 &&& (65535 : Int32))), .val (.int (p6 &&& (65535 : Int32))), .val (.int (1 : Int32))] [(.int (1 : Int32))])) _
            exact retN X22 hx (t := .boolean) Bd.returns (by simp) (hb hby at_180) hr
          · show Q0 Z p1 p2 p3 p4 p5 p6 h0 n0 _ T22.heap _
            rw [e22]
            exact ⟨congrArg (fun z => some (Value.int z)) (by rw [f0, if_pos hc13, if_pos hc15, if_pos hc21, if_pos hc24] : f0 p1 p2 p3 p4 p5 p6 = (1 : Int32)).symm, N22⟩
        · skip
          obtain ⟨fs, hr, hrun, hended, hW, hsame⟩ := X22.leave (v := some (.int (0 : Int32))) (fun h => by rw [Bd.returns] at h; cases h) (by first | exact BodyLoose.notSynchronized Bd | exact Body.notSynchronized Bd)
          refine ⟨_, _, pre23 _ ?_, hrun, hended, _, _, rfl, ?_, ⟨_, rfl⟩, hW, hsame.mono (by decide) (by decide)⟩
          · show Steps p.tables e below (T22.setTop (mkF m 110 #[.val (.int p1), .val (.int p2), .val (.int p3), .val (.int p4), .val (.int p5), .val (.int p6), .val (.ref b7), .val (.int (own_k p4)), .val (.int (p1.toInt8.toInt32)), .val (.int (p2.toInt8.toInt32)), .val (.int (p3.toInt8.toInt32)), .val (.int (p5 &&& (65535 : Int32))), .val (.int (p6 &&& (65535 : Int32))), .unset] [(.int (p1.toInt8.toInt32)), (.int (f6 (0 : Int32) ([(0 : Int32), (0 : Int32), (0 : Int32), (0 : Int32), (0 : Int32), (0 : Int32), (0 : Int32), (0 : Int32)].set (((0 : Int32) &&& (65535 : Int32))).toNatClampNeg (nar .byte (p1.toInt8.toInt32)))))])) _
            refine XS.icmpYes X22.here hx rfl (pc0 := 110) (pc' := 117) rfl (hb hby at_110) rfl (feq hc24).2 (by decide) (by decide) ?_
            show Steps p.tables e below (T22.setTop (mkF m 117 _ [])) _
            refine XS.iconst X22.here hx rfl (hb hby at_117) ?_
            show Steps p.tables e below (T22.setTop (mkF m 118 _ [(.int (0 : Int32))])) _
            refine XS.istore X22.here hx rfl (hb hby at_118) rfl (l' := #[.val (.int p1), .val (.int p2), .val (.int p3), .val (.int p4), .val (.int p5), .val (.int p6), .val (.ref b7), .val (.int (own_k p4)), .val (.int (p1.toInt8.toInt32)), .val (.int (p2.toInt8.toInt32)), .val (.int (p3.toInt8.toInt32)), .val (.int (p5 &&& (65535 : Int32))), .val (.int (p6 &&& (65535 : Int32))), .val (.int (0 : Int32))]) rfl ?_
            show Steps p.tables e below (T22.setTop (mkF m 120 _ [])) _
            refine XS.iload X22.here hx rfl (hb hby at_120) rfl ?_
            show Steps p.tables e below (T22.setTop (mkF m 122 _ [(.int (own_k p4))])) _
            refine XS.iconst X22.here hx rfl (hb hby at_122) ?_
            show Steps p.tables e below (T22.setTop (mkF m 123 _ [(.int (2 : Int32)), (.int (own_k p4))])) _
            refine XS.icmpYes X22.here hx rfl (pc0 := 123) (pc' := 149) rfl (hb hby at_123) rfl (tlt hc13).1 (by decide) (by decide) ?_
            show Steps p.tables e below (T22.setTop (mkF m 149 _ [])) _
            refine XS.iload X22.here hx rfl (hb hby at_149) rfl ?_
            show Steps p.tables e below (T22.setTop (mkF m 151 _ [(.int (own_k p4))])) _
            refine XS.iconst X22.here hx rfl (hb hby at_151) ?_
            show Steps p.tables e below (T22.setTop (mkF m 152 _ [(.int (3 : Int32)), (.int (own_k p4))])) _
            refine XS.icmpYes X22.here hx rfl (pc0 := 152) (pc' := 178) rfl (hb hby at_152) rfl (tlt hc15).1 (by decide) (by decide) ?_
            show Steps p.tables e below (T22.setTop (mkF m 178 _ [])) _
            refine XS.iload X22.here hx rfl (hb hby at_178) rfl ?_
            show Steps p.tables e below (T22.setTop (mkF m 180 #[.val (.int p1), .val (.int p2), .val (.int p3), .val (.int p4), .val (.int p5), .val (.int p6), .val (.ref b7), .val (.int (own_k p4)), .val (.int (p1.toInt8.toInt32)), .val (.int (p2.toInt8.toInt32)), .val (.int (p3.toInt8.toInt32)), .val (.int (p5 &&& (65535 : Int32))), .val (.int (p6 &&& (65535 : Int32))), .val (.int (0 : Int32))] [(.int (0 : Int32))])) _
            exact retN X22 hx (t := .boolean) Bd.returns (by simp) (hb hby at_180) hr
          · show Q0 Z p1 p2 p3 p4 p5 p6 h0 n0 _ T22.heap _
            rw [e22]
            exact ⟨congrArg (fun z => some (Value.int z)) (by rw [f0, if_pos hc13, if_pos hc15, if_pos hc21, if_neg hc24] : f0 p1 p2 p3 p4 p5 p6 = (0 : Int32)).symm, N22⟩
      · skip
        obtain ⟨fs, hr, hrun, hended, hW, hsame⟩ := X19.leave (v := some (.int (0 : Int32))) (fun h => by rw [Bd.returns] at h; cases h) (by first | exact BodyLoose.notSynchronized Bd | exact Body.notSynchronized Bd)
        refine ⟨_, _, pre20 _ ?_, hrun, hended, _, _, rfl, ?_, ⟨_, rfl⟩, hW, hsame.mono (by decide) (by decide)⟩
        · show Steps p.tables e below (T19.setTop (mkF m 99 #[.val (.int p1), .val (.int p2), .val (.int p3), .val (.int p4), .val (.int p5), .val (.int p6), .val (.ref b7), .val (.int (own_k p4)), .val (.int (p1.toInt8.toInt32)), .val (.int (p2.toInt8.toInt32)), .val (.int (p3.toInt8.toInt32)), .val (.int (p5 &&& (65535 : Int32))), .val (.int (p6 &&& (65535 : Int32))), .unset] [(.int (own_k p4)), (.int ((0 : Int32) + (1 : Int32)))])) _
          refine XS.icmpYes X19.here hx rfl (pc0 := 99) (pc' := 117) rfl (hb hby at_99) rfl (feq hc21).2 (by decide) (by decide) ?_
          show Steps p.tables e below (T19.setTop (mkF m 117 _ [])) _
          refine XS.iconst X19.here hx rfl (hb hby at_117) ?_
          show Steps p.tables e below (T19.setTop (mkF m 118 _ [(.int (0 : Int32))])) _
          refine XS.istore X19.here hx rfl (hb hby at_118) rfl (l' := #[.val (.int p1), .val (.int p2), .val (.int p3), .val (.int p4), .val (.int p5), .val (.int p6), .val (.ref b7), .val (.int (own_k p4)), .val (.int (p1.toInt8.toInt32)), .val (.int (p2.toInt8.toInt32)), .val (.int (p3.toInt8.toInt32)), .val (.int (p5 &&& (65535 : Int32))), .val (.int (p6 &&& (65535 : Int32))), .val (.int (0 : Int32))]) rfl ?_
          show Steps p.tables e below (T19.setTop (mkF m 120 _ [])) _
          refine XS.iload X19.here hx rfl (hb hby at_120) rfl ?_
          show Steps p.tables e below (T19.setTop (mkF m 122 _ [(.int (own_k p4))])) _
          refine XS.iconst X19.here hx rfl (hb hby at_122) ?_
          show Steps p.tables e below (T19.setTop (mkF m 123 _ [(.int (2 : Int32)), (.int (own_k p4))])) _
          refine XS.icmpYes X19.here hx rfl (pc0 := 123) (pc' := 149) rfl (hb hby at_123) rfl (tlt hc13).1 (by decide) (by decide) ?_
          show Steps p.tables e below (T19.setTop (mkF m 149 _ [])) _
          refine XS.iload X19.here hx rfl (hb hby at_149) rfl ?_
          show Steps p.tables e below (T19.setTop (mkF m 151 _ [(.int (own_k p4))])) _
          refine XS.iconst X19.here hx rfl (hb hby at_151) ?_
          show Steps p.tables e below (T19.setTop (mkF m 152 _ [(.int (3 : Int32)), (.int (own_k p4))])) _
          refine XS.icmpYes X19.here hx rfl (pc0 := 152) (pc' := 178) rfl (hb hby at_152) rfl (tlt hc15).1 (by decide) (by decide) ?_
          show Steps p.tables e below (T19.setTop (mkF m 178 _ [])) _
          refine XS.iload X19.here hx rfl (hb hby at_178) rfl ?_
          show Steps p.tables e below (T19.setTop (mkF m 180 #[.val (.int p1), .val (.int p2), .val (.int p3), .val (.int p4), .val (.int p5), .val (.int p6), .val (.ref b7), .val (.int (own_k p4)), .val (.int (p1.toInt8.toInt32)), .val (.int (p2.toInt8.toInt32)), .val (.int (p3.toInt8.toInt32)), .val (.int (p5 &&& (65535 : Int32))), .val (.int (p6 &&& (65535 : Int32))), .val (.int (0 : Int32))] [(.int (0 : Int32))])) _
          exact retN X19 hx (t := .boolean) Bd.returns (by simp) (hb hby at_180) hr
        · show Q0 Z p1 p2 p3 p4 p5 p6 h0 n0 _ T19.heap _
          rw [e19]
          exact ⟨congrArg (fun z => some (Value.int z)) (by rw [f0, if_pos hc13, if_pos hc15, if_neg hc21] : f0 p1 p2 p3 p4 p5 p6 = (0 : Int32)).symm, N19⟩
    · skip
      have Zs26 : n0 ≤ T10.heap.size := (Nat.le_trans Zs11 Kp10.1)
      obtain ⟨cq25, kq25, q25a, q25b, q25c⟩ := isOf hZ rfl qp10_0
      obtain ⟨_, _, ⟨T25, L25, k25, n25⟩, -, X25, ⟨Lc25, hQ25, l25, y25, z25⟩, st25⟩ := X10.virtualBack hx (y := (⟨"com/example/loadstone/loadstone/ByteChunks", "put", "(B)V"⟩ : MethodName)) (z := (⟨"com/example/loadstone/loadstone/ByteChunks", "put", "(B)V"⟩ : MethodName)) hown (mvT hZ (hw _ (List.mem_of_getElem? (i := 14) rfl))) (mvT hZ (hw _ (List.mem_of_getElem? (i := 15) rfl))) (notFace_of_selects (args := #[]) (mvT hZ (hw _ (List.mem_of_getElem? (i := 17) rfl)))) (mvT hZ (hw _ (List.mem_of_getElem? (i := 17) rfl))) (mvT hZ (hw _ (List.mem_of_getElem? (i := 16) rfl))) (by decide) (backOf (W := 0) (rm3 l Z a0 hw [] b7 (p3.toInt8.toInt32) b8_b3 ((0 : Int32) + (1 : Int32)) (.int (0 : Int32)) k8_b3 b10_b9 k10_b9 ([(0 : Int32), (0 : Int32), (0 : Int32), (0 : Int32), (0 : Int32), (0 : Int32), (0 : Int32), (0 : Int32)].set (((0 : Int32) &&& (65535 : Int32))).toNatClampNeg (nar .byte (p1.toInt8.toInt32))) (65536 : Int32) T10.heap n0 Zs26 (by decide) qp10_0 qp10_1 qp10_2 qp10_3 qp10_4 qp10_5 qp10_6 ⟨by decide, by decide⟩ ne_b7_b10_b9 ne_b8_b3_b10_b9 (by first | decide | (simp only [List.length_set]; decide)) g_b10_b9 (Ne.symm ne_b7_b8_b3) g_b7) hZ (hw _ (List.mem_of_getElem? (i := 18) rfl)) (hw _ (List.mem_of_getElem? (i := 2) rfl)) (by decide) (by decide)) q25a q25c (g := (mkF m 61 #[.val (.int p1), .val (.int p2), .val (.int p3), .val (.int p4), .val (.int p5), .val (.int p6), .val (.ref b7), .val (.int (own_k p4)), .val (.int (p1.toInt8.toInt32)), .val (.int (p2.toInt8.toInt32)), .val (.int (p3.toInt8.toInt32)), .unset, .unset, .unset] [(.int (p3.toInt8.toInt32)), (.ref b7)])) rfl (by rw [hml]; rfl) (Steps.refl _) (argsL := [(.int (p3.toInt8.toInt32))]) (rest := []) (lenOf pd_0_1 rfl) rfl (by show 2 * 0 + _ ≤ _; exact Nat.le_of_eq rfl) (hb hby at_61) (fun _ _ => ⟨rfl, rfl, (by decide : 3 + 0 ≤ _), (by decide : 65540 + 0 ≤ _)⟩)
      dsimp only [Pt.U, Pt.locs, Pt.cells, Pt.slots] at X25 l25 y25 z25 st25 hQ25
      subst l25 y25 z25
      obtain ⟨rfl, N25q, Kp25, qp25_0, qp25_1, qp25_2, qp25_3, qp25_4⟩ := hQ25
      have N25 := Fr.app N10 N25q
      have Av28 := (qp10_4.keep Kp25 (ninS ne_b8_b3_b10_b9 (ninS (Ne.symm ne_b7_b8_b3) nin0)))
      have Zs29 : n0 ≤ T25.heap.size := (Nat.le_trans Zs26 Kp25.1)
      obtain ⟨cq27, kq27, q27a, q27b, q27c⟩ := isOf hZ rfl qp25_0
      obtain ⟨_, _, ⟨T27, L27, k27, n27⟩, -, X27, ⟨Lc27, hQ27, l27, y27, z27⟩, st27⟩ := X25.virtualBack hx (y := (⟨"com/example/loadstone/loadstone/ByteChunks", "release", "(I)V"⟩ : MethodName)) (z := (⟨"com/example/loadstone/loadstone/ByteChunks", "release", "(I)V"⟩ : MethodName)) hown (mvT hZ (hw _ (List.mem_of_getElem? (i := 26) rfl))) (mvT hZ (hw _ (List.mem_of_getElem? (i := 27) rfl))) (notFace_of_selects (args := #[]) (mvT hZ (hw _ (List.mem_of_getElem? (i := 29) rfl)))) (mvT hZ (hw _ (List.mem_of_getElem? (i := 29) rfl))) (mvT hZ (hw _ (List.mem_of_getElem? (i := 28) rfl))) (by decide) (backOf (W := 0) (rm4 l Z a0 hw [] b7 (p5 &&& (65535 : Int32)) (0 : Int32) T25.heap n0 Zs29 (own_rel p5) qp25_3) hZ (hw _ (List.mem_of_getElem? (i := 30) rfl)) (hw _ (List.mem_of_getElem? (i := 2) rfl)) (by decide) (by decide)) q27a q27c (g := (mkF m 82 #[.val (.int p1), .val (.int p2), .val (.int p3), .val (.int p4), .val (.int p5), .val (.int p6), .val (.ref b7), .val (.int (own_k p4)), .val (.int (p1.toInt8.toInt32)), .val (.int (p2.toInt8.toInt32)), .val (.int (p3.toInt8.toInt32)), .val (.int (p5 &&& (65535 : Int32))), .val (.int (p6 &&& (65535 : Int32))), .unset] [(.int (p5 &&& (65535 : Int32))), (.ref b7)])) rfl (by rw [hml]; rfl) (Steps.refl _) (argsL := [(.int (p5 &&& (65535 : Int32)))]) (rest := []) (lenOf pd_0_2 rfl) rfl (by show 2 * 0 + _ ≤ _; exact Nat.le_of_eq rfl) (hb hby at_82) (fun _ _ => ⟨rfl, rfl, (by decide : 3 + 0 ≤ _), (by decide : 65540 + 0 ≤ _)⟩)
      dsimp only [Pt.U, Pt.locs, Pt.cells, Pt.slots] at X27 l27 y27 z27 st27 hQ27
      subst l27 y27 z27
      obtain ⟨rfl, N27q, e27⟩ := hQ27
      have N27 := Fr.app N25 N27q
      obtain ⟨cq30, kq30, q30a, q30b, q30c⟩ := isOf hZ e27 qp25_0
      obtain ⟨_, _, ⟨T30, L30, k30, n30⟩, -, X30, ⟨Lc30, hQ30, l30, y30, z30⟩, st30⟩ := X27.virtualBack hx (y := (⟨"com/example/loadstone/loadstone/ByteChunks", "release", "(I)V"⟩ : MethodName)) (z := (⟨"com/example/loadstone/loadstone/ByteChunks", "release", "(I)V"⟩ : MethodName)) hown (mvT hZ (hw _ (List.mem_of_getElem? (i := 26) rfl))) (mvT hZ (hw _ (List.mem_of_getElem? (i := 27) rfl))) (notFace_of_selects (args := #[]) (mvT hZ (hw _ (List.mem_of_getElem? (i := 29) rfl)))) (mvT hZ (hw _ (List.mem_of_getElem? (i := 29) rfl))) (mvT hZ (hw _ (List.mem_of_getElem? (i := 28) rfl))) (by decide) (backOf (W := 0) (rm4 l Z a0 hw [] b7 (p6 &&& (65535 : Int32)) (0 : Int32) T25.heap n0 Zs29 (own_rel p6) qp25_3) hZ (hw _ (List.mem_of_getElem? (i := 30) rfl)) (hw _ (List.mem_of_getElem? (i := 2) rfl)) (by decide) (by decide)) q30a q30c (g := (mkF m 89 #[.val (.int p1), .val (.int p2), .val (.int p3), .val (.int p4), .val (.int p5), .val (.int p6), .val (.ref b7), .val (.int (own_k p4)), .val (.int (p1.toInt8.toInt32)), .val (.int (p2.toInt8.toInt32)), .val (.int (p3.toInt8.toInt32)), .val (.int (p5 &&& (65535 : Int32))), .val (.int (p6 &&& (65535 : Int32))), .unset] [(.int (p6 &&& (65535 : Int32))), (.ref b7)])) rfl (by rw [hml]; rfl) (Steps.refl _) (argsL := [(.int (p6 &&& (65535 : Int32)))]) (rest := []) (lenOf pd_0_2 rfl) rfl (by show 2 * 0 + _ ≤ _; exact Nat.le_of_eq rfl) (hb hby at_89) (fun _ _ => ⟨rfl, e27, (by decide : 3 + 0 ≤ _), (by decide : 65540 + 0 ≤ _)⟩)
      dsimp only [Pt.U, Pt.locs, Pt.cells, Pt.slots] at X30 l30 y30 z30 st30 hQ30
      subst l30 y30 z30
      obtain ⟨rfl, N30q, e30⟩ := hQ30
      have N30 := Fr.app N27 N30q
      obtain ⟨cq31, kq31, q31a, q31b, q31c⟩ := isOf hZ e30 qp25_0
      obtain ⟨_, _, ⟨T31, L31, k31, n31⟩, -, X31, ⟨Lc31, hQ31, l31, y31, z31⟩, st31⟩ := X30.virtualBack hx (y := (⟨"com/example/loadstone/loadstone/ByteChunks", "length", "()I"⟩ : MethodName)) (z := (⟨"com/example/loadstone/loadstone/ByteChunks", "length", "()I"⟩ : MethodName)) hown (mvT hZ (hw _ (List.mem_of_getElem? (i := 33) rfl))) (mvT hZ (hw _ (List.mem_of_getElem? (i := 34) rfl))) (notFace_of_selects (args := #[]) (mvT hZ (hw _ (List.mem_of_getElem? (i := 36) rfl)))) (mvT hZ (hw _ (List.mem_of_getElem? (i := 36) rfl))) (mvT hZ (hw _ (List.mem_of_getElem? (i := 35) rfl))) (by decide) (backOf (W := 0) (rm5 l Z a0 hw [] b7 (((0 : Int32) + (1 : Int32)) + (1 : Int32)) T25.heap n0 Zs29 qp25_2) hZ (hw _ (List.mem_of_getElem? (i := 37) rfl)) (hw _ (List.mem_of_getElem? (i := 2) rfl)) (by decide) (by decide)) q31a q31c (g := (mkF m 94 #[.val (.int p1), .val (.int p2), .val (.int p3), .val (.int p4), .val (.int p5), .val (.int p6), .val (.ref b7), .val (.int (own_k p4)), .val (.int (p1.toInt8.toInt32)), .val (.int (p2.toInt8.toInt32)), .val (.int (p3.toInt8.toInt32)), .val (.int (p5 &&& (65535 : Int32))), .val (.int (p6 &&& (65535 : Int32))), .unset] [(.ref b7)])) rfl (by rw [hml]; rfl) (Steps.refl _) (argsL := []) (rest := []) (lenOf pd_0_3 rfl) rfl (by show 2 * 0 + _ ≤ _; exact Nat.le_of_eq rfl) (hb hby at_94) (fun _ _ => ⟨rfl, e30, (by decide : 3 + 0 ≤ _), (by decide : 65540 + 0 ≤ _)⟩)
      dsimp only [Pt.U, Pt.locs, Pt.cells, Pt.slots] at X31 l31 y31 z31 st31 hQ31
      subst l31 y31 z31
      obtain ⟨rfl, N31q, e31⟩ := hQ31
      have N31 := Fr.app N30 N31q
      have pre32 : ∀ t, Steps p.tables e below (T31.setTop (mkF m 99 #[.val (.int p1), .val (.int p2), .val (.int p3), .val (.int p4), .val (.int p5), .val (.int p6), .val (.ref b7), .val (.int (own_k p4)), .val (.int (p1.toInt8.toInt32)), .val (.int (p2.toInt8.toInt32)), .val (.int (p3.toInt8.toInt32)), .val (.int (p5 &&& (65535 : Int32))), .val (.int (p6 &&& (65535 : Int32))), .unset] [(.int (own_k p4)), (.int (((0 : Int32) + (1 : Int32)) + (1 : Int32)))])) t → Steps p.tables e below (s₁.setTop (entryFrame m #[(.int p1), (.int p2), (.int p3), (.int p4), (.int p5), (.int p6)] maxLocals)) t := fun t kt => by
        refine pre14 _ ?_
        show Steps p.tables e below (T10.setTop (mkF m 54 #[.val (.int p1), .val (.int p2), .val (.int p3), .val (.int p4), .val (.int p5), .val (.int p6), .val (.ref b7), .val (.int (own_k p4)), .val (.int (p1.toInt8.toInt32)), .val (.int (p2.toInt8.toInt32)), .val (.int (p3.toInt8.toInt32)), .unset, .unset, .unset] [(.int (3 : Int32)), (.int (own_k p4))])) _
        refine XS.icmpNo X10.here hx rfl (hb hby at_54) rfl (flt hc15).1 ?_
        show Steps p.tables e below (T10.setTop (mkF m 57 _ [])) _
        refine XS.aload X10.here hx rfl (hb hby at_57) rfl rfl ?_
        show Steps p.tables e below (T10.setTop (mkF m 59 _ [(.ref b7)])) _
        refine XS.iload X10.here hx rfl (hb hby at_59) rfl ?_
        show Steps p.tables e below (T10.setTop (mkF m 61 _ [(.int (p3.toInt8.toInt32)), (.ref b7)])) _
        refine st25.trans ?_
        show Steps p.tables e below (T25.setTop (mkF m 64 _ [])) _
        refine XS.iload X25.here hx rfl (hb hby at_64) rfl ?_
        show Steps p.tables e below (T25.setTop (mkF m 66 _ [(.int p5)])) _
        refine X25.ldcInt hx hown (mvT hZ (hw _ (List.mem_of_getElem? (i := 25) rfl))) (g := (mkF m 66 #[.val (.int p1), .val (.int p2), .val (.int p3), .val (.int p4), .val (.int p5), .val (.int p6), .val (.ref b7), .val (.int (own_k p4)), .val (.int (p1.toInt8.toInt32)), .val (.int (p2.toInt8.toInt32)), .val (.int (p3.toInt8.toInt32)), .unset, .unset, .unset] [(.int p5)])) rfl (hb hby at_66) _ ?_
        show Steps p.tables e below (T25.setTop (mkF m 68 _ [(.int (65535 : Int32)), (.int p5)])) _
        refine XS.iand X25.here hx rfl (hb hby at_68) rfl ?_
        show Steps p.tables e below (T25.setTop (mkF m 69 _ [(.int (p5 &&& (65535 : Int32)))])) _
        refine XS.istore X25.here hx rfl (hb hby at_69) rfl (l' := #[.val (.int p1), .val (.int p2), .val (.int p3), .val (.int p4), .val (.int p5), .val (.int p6), .val (.ref b7), .val (.int (own_k p4)), .val (.int (p1.toInt8.toInt32)), .val (.int (p2.toInt8.toInt32)), .val (.int (p3.toInt8.toInt32)), .val (.int (p5 &&& (65535 : Int32))), .unset, .unset]) rfl ?_
        show Steps p.tables e below (T25.setTop (mkF m 71 _ [])) _
        refine XS.iload X25.here hx rfl (hb hby at_71) rfl ?_
        show Steps p.tables e below (T25.setTop (mkF m 73 _ [(.int p6)])) _
        refine X25.ldcInt hx hown (mvT hZ (hw _ (List.mem_of_getElem? (i := 25) rfl))) (g := (mkF m 73 #[.val (.int p1), .val (.int p2), .val (.int p3), .val (.int p4), .val (.int p5), .val (.int p6), .val (.ref b7), .val (.int (own_k p4)), .val (.int (p1.toInt8.toInt32)), .val (.int (p2.toInt8.toInt32)), .val (.int (p3.toInt8.toInt32)), .val (.int (p5 &&& (65535 : Int32))), .unset, .unset] [(.int p6)])) rfl (hb hby at_73) _ ?_
        show Steps p.tables e below (T25.setTop (mkF m 75 _ [(.int (65535 : Int32)), (.int p6)])) _
        refine XS.iand X25.here hx rfl (hb hby at_75) rfl ?_
        show Steps p.tables e below (T25.setTop (mkF m 76 _ [(.int (p6 &&& (65535 : Int32)))])) _
        refine XS.istore X25.here hx rfl (hb hby at_76) rfl (l' := #[.val (.int p1), .val (.int p2), .val (.int p3), .val (.int p4), .val (.int p5), .val (.int p6), .val (.ref b7), .val (.int (own_k p4)), .val (.int (p1.toInt8.toInt32)), .val (.int (p2.toInt8.toInt32)), .val (.int (p3.toInt8.toInt32)), .val (.int (p5 &&& (65535 : Int32))), .val (.int (p6 &&& (65535 : Int32))), .unset]) rfl ?_
        show Steps p.tables e below (T25.setTop (mkF m 78 _ [])) _
        refine XS.aload X25.here hx rfl (hb hby at_78) rfl rfl ?_
        show Steps p.tables e below (T25.setTop (mkF m 80 _ [(.ref b7)])) _
        refine XS.iload X25.here hx rfl (hb hby at_80) rfl ?_
        show Steps p.tables e below (T25.setTop (mkF m 82 _ [(.int (p5 &&& (65535 : Int32))), (.ref b7)])) _
        refine st27.trans ?_
        show Steps p.tables e below (T27.setTop (mkF m 85 _ [])) _
        refine XS.aload X27.here hx rfl (hb hby at_85) rfl rfl ?_
        show Steps p.tables e below (T27.setTop (mkF m 87 _ [(.ref b7)])) _
        refine XS.iload X27.here hx rfl (hb hby at_87) rfl ?_
        show Steps p.tables e below (T27.setTop (mkF m 89 _ [(.int (p6 &&& (65535 : Int32))), (.ref b7)])) _
        refine st30.trans ?_
        show Steps p.tables e below (T30.setTop (mkF m 92 _ [])) _
        refine XS.aload X30.here hx rfl (hb hby at_92) rfl rfl ?_
        show Steps p.tables e below (T30.setTop (mkF m 94 _ [(.ref b7)])) _
        refine st31.trans ?_
        show Steps p.tables e below (T31.setTop (mkF m 97 _ [(.int (((0 : Int32) + (1 : Int32)) + (1 : Int32)))])) _
        refine XS.iload X31.here hx rfl (hb hby at_97) rfl ?_
        exact kt
      by_cases hc33 : (((0 : Int32) + (1 : Int32)) + (1 : Int32)) = (own_k p4)
      · skip
        obtain ⟨cq34, kq34, q34a, q34b, q34c⟩ := isOf hZ e31 qp25_0
        obtain ⟨_, _, ⟨T34, L34, k34, n34⟩, -, X34, ⟨Lc34, hQ34, l34, y34, z34⟩, st34⟩ := X31.virtualBack hx (y := (⟨"com/example/loadstone/loadstone/ByteChunks", "at", "(I)B"⟩ : MethodName)) (z := (⟨"com/example/loadstone/loadstone/ByteChunks", "at", "(I)B"⟩ : MethodName)) hown (mvT hZ (hw _ (List.mem_of_getElem? (i := 38) rfl))) (mvT hZ (hw _ (List.mem_of_getElem? (i := 39) rfl))) (notFace_of_selects (args := #[]) (mvT hZ (hw _ (List.mem_of_getElem? (i := 41) rfl)))) (mvT hZ (hw _ (List.mem_of_getElem? (i := 41) rfl))) (mvT hZ (hw _ (List.mem_of_getElem? (i := 40) rfl))) (by decide) (backOf (W := 0) (rm6 l Z a0 hw [] b7 (0 : Int32) b8_b3 k8_b3 b10_b9 k10_b9 (([(0 : Int32), (0 : Int32), (0 : Int32), (0 : Int32), (0 : Int32), (0 : Int32), (0 : Int32), (0 : Int32)].set (((0 : Int32) &&& (65535 : Int32))).toNatClampNeg (nar .byte (p1.toInt8.toInt32))).set ((((0 : Int32) + (1 : Int32)) &&& (65535 : Int32))).toNatClampNeg (nar .byte (p3.toInt8.toInt32))) (65536 : Int32) T25.heap n0 Zs29 (by decide) qp25_1 Av28 qp10_5 qp25_4 ⟨by decide, by decide⟩) hZ (hw _ (List.mem_of_getElem? (i := 42) rfl)) (hw _ (List.mem_of_getElem? (i := 2) rfl)) (by decide) (by decide)) q34a q34c (g := (mkF m 105 #[.val (.int p1), .val (.int p2), .val (.int p3), .val (.int p4), .val (.int p5), .val (.int p6), .val (.ref b7), .val (.int (own_k p4)), .val (.int (p1.toInt8.toInt32)), .val (.int (p2.toInt8.toInt32)), .val (.int (p3.toInt8.toInt32)), .val (.int (p5 &&& (65535 : Int32))), .val (.int (p6 &&& (65535 : Int32))), .unset] [(.int (0 : Int32)), (.ref b7)])) rfl (by rw [hml]; rfl) (Steps.refl _) (argsL := [(.int (0 : Int32))]) (rest := []) (lenOf pd_0_4 rfl) rfl (by show 2 * 0 + _ ≤ _; exact Nat.le_of_eq rfl) (hb hby at_105) (fun _ _ => ⟨rfl, e31, (by decide : 3 + 0 ≤ _), (by decide : 65540 + 0 ≤ _)⟩)
        dsimp only [Pt.U, Pt.locs, Pt.cells, Pt.slots] at X34 l34 y34 z34 st34 hQ34
        subst l34 y34 z34
        obtain ⟨rfl, N34q, e34⟩ := hQ34
        have N34 := Fr.app N31 N34q
        have pre35 : ∀ t, Steps p.tables e below (T34.setTop (mkF m 110 #[.val (.int p1), .val (.int p2), .val (.int p3), .val (.int p4), .val (.int p5), .val (.int p6), .val (.ref b7), .val (.int (own_k p4)), .val (.int (p1.toInt8.toInt32)), .val (.int (p2.toInt8.toInt32)), .val (.int (p3.toInt8.toInt32)), .val (.int (p5 &&& (65535 : Int32))), .val (.int (p6 &&& (65535 : Int32))), .unset] [(.int (p1.toInt8.toInt32)), (.int (f6 (0 : Int32) (([(0 : Int32), (0 : Int32), (0 : Int32), (0 : Int32), (0 : Int32), (0 : Int32), (0 : Int32), (0 : Int32)].set (((0 : Int32) &&& (65535 : Int32))).toNatClampNeg (nar .byte (p1.toInt8.toInt32))).set ((((0 : Int32) + (1 : Int32)) &&& (65535 : Int32))).toNatClampNeg (nar .byte (p3.toInt8.toInt32)))))])) t → Steps p.tables e below (s₁.setTop (entryFrame m #[(.int p1), (.int p2), (.int p3), (.int p4), (.int p5), (.int p6)] maxLocals)) t := fun t kt => by
          refine pre32 _ ?_
          show Steps p.tables e below (T31.setTop (mkF m 99 #[.val (.int p1), .val (.int p2), .val (.int p3), .val (.int p4), .val (.int p5), .val (.int p6), .val (.ref b7), .val (.int (own_k p4)), .val (.int (p1.toInt8.toInt32)), .val (.int (p2.toInt8.toInt32)), .val (.int (p3.toInt8.toInt32)), .val (.int (p5 &&& (65535 : Int32))), .val (.int (p6 &&& (65535 : Int32))), .unset] [(.int (own_k p4)), (.int (((0 : Int32) + (1 : Int32)) + (1 : Int32)))])) _
          refine XS.icmpNo X31.here hx rfl (hb hby at_99) rfl (teq hc33).2 ?_
          show Steps p.tables e below (T31.setTop (mkF m 102 _ [])) _
          refine XS.aload X31.here hx rfl (hb hby at_102) rfl rfl ?_
          show Steps p.tables e below (T31.setTop (mkF m 104 _ [(.ref b7)])) _
          refine XS.iconst X31.here hx rfl (hb hby at_104) ?_
          show Steps p.tables e below (T31.setTop (mkF m 105 _ [(.int (0 : Int32)), (.ref b7)])) _
          refine st34.trans ?_
          show Steps p.tables e below (T34.setTop (mkF m 108 _ [(.int (f6 (0 : Int32) (([(0 : Int32), (0 : Int32), (0 : Int32), (0 : Int32), (0 : Int32), (0 : Int32), (0 : Int32), (0 : Int32)].set (((0 : Int32) &&& (65535 : Int32))).toNatClampNeg (nar .byte (p1.toInt8.toInt32))).set ((((0 : Int32) + (1 : Int32)) &&& (65535 : Int32))).toNatClampNeg (nar .byte (p3.toInt8.toInt32)))))])) _
          refine XS.iload X34.here hx rfl (hb hby at_108) rfl ?_
          exact kt
        by_cases hc36 : (f6 (0 : Int32) (([(0 : Int32), (0 : Int32), (0 : Int32), (0 : Int32), (0 : Int32), (0 : Int32), (0 : Int32), (0 : Int32)].set (((0 : Int32) &&& (65535 : Int32))).toNatClampNeg (nar .byte (p1.toInt8.toInt32))).set ((((0 : Int32) + (1 : Int32)) &&& (65535 : Int32))).toNatClampNeg (nar .byte (p3.toInt8.toInt32)))) = (p1.toInt8.toInt32)
        · skip
          obtain ⟨cq37, kq37, q37a, q37b, q37c⟩ := isOf hZ e34 qp25_0
          obtain ⟨_, _, ⟨T37, L37, k37, n37⟩, -, X37, ⟨Lc37, hQ37, l37, y37, z37⟩, st37⟩ := X34.virtualBack hx (y := (⟨"com/example/loadstone/loadstone/ByteChunks", "at", "(I)B"⟩ : MethodName)) (z := (⟨"com/example/loadstone/loadstone/ByteChunks", "at", "(I)B"⟩ : MethodName)) hown (mvT hZ (hw _ (List.mem_of_getElem? (i := 38) rfl))) (mvT hZ (hw _ (List.mem_of_getElem? (i := 39) rfl))) (notFace_of_selects (args := #[]) (mvT hZ (hw _ (List.mem_of_getElem? (i := 41) rfl)))) (mvT hZ (hw _ (List.mem_of_getElem? (i := 41) rfl))) (mvT hZ (hw _ (List.mem_of_getElem? (i := 40) rfl))) (by decide) (backOf (W := 0) (rm6 l Z a0 hw [] b7 (2 : Int32) b8_b3 k8_b3 b10_b9 k10_b9 (([(0 : Int32), (0 : Int32), (0 : Int32), (0 : Int32), (0 : Int32), (0 : Int32), (0 : Int32), (0 : Int32)].set (((0 : Int32) &&& (65535 : Int32))).toNatClampNeg (nar .byte (p1.toInt8.toInt32))).set ((((0 : Int32) + (1 : Int32)) &&& (65535 : Int32))).toNatClampNeg (nar .byte (p3.toInt8.toInt32))) (65536 : Int32) T25.heap n0 Zs29 (by decide) qp25_1 Av28 qp10_5 qp25_4 ⟨by decide, by decide⟩) hZ (hw _ (List.mem_of_getElem? (i := 42) rfl)) (hw _ (List.mem_of_getElem? (i := 2) rfl)) (by decide) (by decide)) q37a q37c (g := (mkF m 163 #[.val (.int p1), .val (.int p2), .val (.int p3), .val (.int p4), .val (.int p5), .val (.int p6), .val (.ref b7), .val (.int (own_k p4)), .val (.int (p1.toInt8.toInt32)), .val (.int (p2.toInt8.toInt32)), .val (.int (p3.toInt8.toInt32)), .val (.int (p5 &&& (65535 : Int32))), .val (.int (p6 &&& (65535 : Int32))), .val (.int (1 : Int32))] [(.int (2 : Int32)), (.ref b7)])) rfl (by rw [hml]; rfl) (Steps.refl _) (argsL := [(.int (2 : Int32))]) (rest := []) (lenOf pd_0_4 rfl) rfl (by show 2 * 0 + _ ≤ _; exact Nat.le_of_eq rfl) (hb hby at_163) (fun _ _ => ⟨rfl, e34, (by decide : 3 + 0 ≤ _), (by decide : 65540 + 0 ≤ _)⟩)
          dsimp only [Pt.U, Pt.locs, Pt.cells, Pt.slots] at X37 l37 y37 z37 st37 hQ37
          subst l37 y37 z37
          obtain ⟨rfl, N37q, e37⟩ := hQ37
          have N37 := Fr.app N34 N37q
          have pre38 : ∀ t, Steps p.tables e below (T37.setTop (mkF m 168 #[.val (.int p1), .val (.int p2), .val (.int p3), .val (.int p4), .val (.int p5), .val (.int p6), .val (.ref b7), .val (.int (own_k p4)), .val (.int (p1.toInt8.toInt32)), .val (.int (p2.toInt8.toInt32)), .val (.int (p3.toInt8.toInt32)), .val (.int (p5 &&& (65535 : Int32))), .val (.int (p6 &&& (65535 : Int32))), .val (.int (1 : Int32))] [(.int (p3.toInt8.toInt32)), (.int (f6 (2 : Int32) (([(0 : Int32), (0 : Int32), (0 : Int32), (0 : Int32), (0 : Int32), (0 : Int32), (0 : Int32), (0 : Int32)].set (((0 : Int32) &&& (65535 : Int32))).toNatClampNeg (nar .byte (p1.toInt8.toInt32))).set ((((0 : Int32) + (1 : Int32)) &&& (65535 : Int32))).toNatClampNeg (nar .byte (p3.toInt8.toInt32)))))])) t → Steps p.tables e below (s₁.setTop (entryFrame m #[(.int p1), (.int p2), (.int p3), (.int p4), (.int p5), (.int p6)] maxLocals)) t := fun t kt => by
            refine pre35 _ ?_
            show Steps p.tables e below (T34.setTop (mkF m 110 #[.val (.int p1), .val (.int p2), .val (.int p3), .val (.int p4), .val (.int p5), .val (.int p6), .val (.ref b7), .val (.int (own_k p4)), .val (.int (p1.toInt8.toInt32)), .val (.int (p2.toInt8.toInt32)), .val (.int (p3.toInt8.toInt32)), .val (.int (p5 &&& (65535 : Int32))), .val (.int (p6 &&& (65535 : Int32))), .unset] [(.int (p1.toInt8.toInt32)), (.int (f6 (0 : Int32) (([(0 : Int32), (0 : Int32), (0 : Int32), (0 : Int32), (0 : Int32), (0 : Int32), (0 : Int32), (0 : Int32)].set (((0 : Int32) &&& (65535 : Int32))).toNatClampNeg (nar .byte (p1.toInt8.toInt32))).set ((((0 : Int32) + (1 : Int32)) &&& (65535 : Int32))).toNatClampNeg (nar .byte (p3.toInt8.toInt32)))))])) _
            refine XS.icmpNo X34.here hx rfl (hb hby at_110) rfl (teq hc36).2 ?_
            show Steps p.tables e below (T34.setTop (mkF m 113 _ [])) _
            refine XS.iconst X34.here hx rfl (hb hby at_113) ?_
            show Steps p.tables e below (T34.setTop (mkF m 114 _ [(.int (1 : Int32))])) _
            refine XS.goto X34.here hx rfl (pc0 := 114) (pc' := 118) rfl (hb hby at_114) (by decide) (by decide) ?_
            show Steps p.tables e below (T34.setTop (mkF m 118 _ [(.int (1 : Int32))])) _
            refine XS.istore X34.here hx rfl (hb hby at_118) rfl (l' := #[.val (.int p1), .val (.int p2), .val (.int p3), .val (.int p4), .val (.int p5), .val (.int p6), .val (.ref b7), .val (.int (own_k p4)), .val (.int (p1.toInt8.toInt32)), .val (.int (p2.toInt8.toInt32)), .val (.int (p3.toInt8.toInt32)), .val (.int (p5 &&& (65535 : Int32))), .val (.int (p6 &&& (65535 : Int32))), .val (.int (1 : Int32))]) rfl ?_
            show Steps p.tables e below (T34.setTop (mkF m 120 _ [])) _
            refine XS.iload X34.here hx rfl (hb hby at_120) rfl ?_
            show Steps p.tables e below (T34.setTop (mkF m 122 _ [(.int (own_k p4))])) _
            refine XS.iconst X34.here hx rfl (hb hby at_122) ?_
            show Steps p.tables e below (T34.setTop (mkF m 123 _ [(.int (2 : Int32)), (.int (own_k p4))])) _
            refine XS.icmpYes X34.here hx rfl (pc0 := 123) (pc' := 149) rfl (hb hby at_123) rfl (tlt hc13).1 (by decide) (by decide) ?_
            show Steps p.tables e below (T34.setTop (mkF m 149 _ [])) _
            refine XS.iload X34.here hx rfl (hb hby at_149) rfl ?_
            show Steps p.tables e below (T34.setTop (mkF m 151 _ [(.int (own_k p4))])) _
            refine XS.iconst X34.here hx rfl (hb hby at_151) ?_
            show Steps p.tables e below (T34.setTop (mkF m 152 _ [(.int (3 : Int32)), (.int (own_k p4))])) _
            refine XS.icmpNo X34.here hx rfl (hb hby at_152) rfl (flt hc15).1 ?_
            show Steps p.tables e below (T34.setTop (mkF m 155 _ [])) _
            refine XS.iload X34.here hx rfl (hb hby at_155) rfl ?_
            show Steps p.tables e below (T34.setTop (mkF m 157 _ [(.int (1 : Int32))])) _
            refine XS.ifNo X34.here hx rfl (hb hby at_157) rfl ((if0 _ _).trans (feq (by decide)).1) ?_
            show Steps p.tables e below (T34.setTop (mkF m 160 _ [])) _
            refine XS.aload X34.here hx rfl (hb hby at_160) rfl rfl ?_
            show Steps p.tables e below (T34.setTop (mkF m 162 _ [(.ref b7)])) _
            refine XS.iconst X34.here hx rfl (hb hby at_162) ?_
            show Steps p.tables e below (T34.setTop (mkF m 163 _ [(.int (2 : Int32)), (.ref b7)])) _
            refine st37.trans ?_
            show Steps p.tables e below (T37.setTop (mkF m 166 _ [(.int (f6 (2 : Int32) (([(0 : Int32), (0 : Int32), (0 : Int32), (0 : Int32), (0 : Int32), (0 : Int32), (0 : Int32), (0 : Int32)].set (((0 : Int32) &&& (65535 : Int32))).toNatClampNeg (nar .byte (p1.toInt8.toInt32))).set ((((0 : Int32) + (1 : Int32)) &&& (65535 : Int32))).toNatClampNeg (nar .byte (p3.toInt8.toInt32)))))])) _
            refine XS.iload X37.here hx rfl (hb hby at_166) rfl ?_
            exact kt
          by_cases hc39 : (f6 (2 : Int32) (([(0 : Int32), (0 : Int32), (0 : Int32), (0 : Int32), (0 : Int32), (0 : Int32), (0 : Int32), (0 : Int32)].set (((0 : Int32) &&& (65535 : Int32))).toNatClampNeg (nar .byte (p1.toInt8.toInt32))).set ((((0 : Int32) + (1 : Int32)) &&& (65535 : Int32))).toNatClampNeg (nar .byte (p3.toInt8.toInt32)))) = (p3.toInt8.toInt32)
          · skip
            obtain ⟨fs, hr, hrun, hended, hW, hsame⟩ := X37.leave (v := some (.int (1 : Int32))) (fun h => by rw [Bd.returns] at h; cases h) (by first | exact BodyLoose.notSynchronized Bd | exact Body.notSynchronized Bd)
            refine ⟨_, _, pre38 _ ?_, hrun, hended, _, _, rfl, ?_, ⟨_, rfl⟩, hW, hsame.mono (by decide) (by decide)⟩
            · show Steps p.tables e below (T37.setTop (mkF m 168 #[.val (.int p1), .val (.int p2), .val (.int p3), .val (.int p4), .val (.int p5), .val (.int p6), .val (.ref b7), .val (.int (own_k p4)), .val (.int (p1.toInt8.toInt32)), .val (.int (p2.toInt8.toInt32)), .val (.int (p3.toInt8.toInt32)), .val (.int (p5 &&& (65535 : Int32))), .val (.int (p6 &&& (65535 : Int32))), .val (.int (1 : Int32))] [(.int (p3.toInt8.toInt32)), (.int (f6 (2 : Int32) (([(0 : Int32), (0 : Int32), (0 : Int32), (0 : Int32), (0 : Int32), (0 : Int32), (0 : Int32), (0 : Int32)].set (((0 : Int32) &&& (65535 : Int32))).toNatClampNeg (nar .byte (p1.toInt8.toInt32))).set ((((0 : Int32) + (1 : Int32)) &&& (65535 : Int32))).toNatClampNeg (nar .byte (p3.toInt8.toInt32)))))])) _
              refine XS.icmpNo X37.here hx rfl (hb hby at_168) rfl (teq hc39).2 ?_
              show Steps p.tables e below (T37.setTop (mkF m 171 _ [])) _
              refine XS.iconst X37.here hx rfl (hb hby at_171) ?_
              show Steps p.tables e below (T37.setTop (mkF m 172 _ [(.int (1 : Int32))])) _
              refine XS.goto X37.here hx rfl (pc0 := 172) (pc' := 176) rfl (hb hby at_172) (by decide) (by decide) ?_
              show Steps p.tables e below (T37.setTop (mkF m 176 _ [(.int (1 : Int32))])) _
              refine XS.istore X37.here hx rfl (hb hby at_176) rfl (l' := #[.val (.int p1), .val (.int p2), .val (.int p3), .val (.int p4), .val (.int p5), .val (.int p6), .val (.ref b7), .val (.int (own_k p4)), .val (.int (p1.toInt8.toInt32)), .val (.int (p2.toInt8.toInt32)), .val (.int (p3.toInt8.toInt32)), .val (.int (p5 &&& (65535 : Int32))), .val (.int (p6 &&& (65535 : Int32))), .val (.int (1 : Int32))]) rfl ?_
              show Steps p.tables e below (T37.setTop (mkF m 178 _ [])) _
              refine XS.iload X37.here hx rfl (hb hby at_178) rfl ?_
              show Steps p.tables e below (T37.setTop (mkF m 180 #[.val (.int p1), .val (.int p2), .val (.int p3), .val (.int p4), .val (.int p5), .val (.int p6), .val (.ref b7), .val (.int (own_k p4)), .val (.int (p1.toInt8.toInt32)), .val (.int (p2.toInt8.toInt32)), .val (.int (p3.toInt8.toInt32)), .val (.int (p5 &&& (65535 : Int32))), .val (.int (p6 &&& (65535 : Int32))), .val (.int (1 : Int32))] [(.int (1 : Int32))])) _
              exact retN X37 hx (t := .boolean) Bd.returns (by simp) (hb hby at_180) hr
            · show Q0 Z p1 p2 p3 p4 p5 p6 h0 n0 _ T37.heap _
              rw [e37]
              exact ⟨congrArg (fun z => some (Value.int z)) (by rw [f0, if_pos hc13, if_neg hc15, if_pos hc33, if_pos hc36, if_pos hc39] : f0 p1 p2 p3 p4 p5 p6 = (1 : Int32)).symm, N37⟩
          · skip
            obtain ⟨fs, hr, hrun, hended, hW, hsame⟩ := X37.leave (v := some (.int (0 : Int32))) (fun h => by rw [Bd.returns] at h; cases h) (by first | exact BodyLoose.notSynchronized Bd | exact Body.notSynchronized Bd)
            refine ⟨_, _, pre38 _ ?_, hrun, hended, _, _, rfl, ?_, ⟨_, rfl⟩, hW, hsame.mono (by decide) (by decide)⟩
            · show Steps p.tables e below (T37.setTop (mkF m 168 #[.val (.int p1), .val (.int p2), .val (.int p3), .val (.int p4), .val (.int p5), .val (.int p6), .val (.ref b7), .val (.int (own_k p4)), .val (.int (p1.toInt8.toInt32)), .val (.int (p2.toInt8.toInt32)), .val (.int (p3.toInt8.toInt32)), .val (.int (p5 &&& (65535 : Int32))), .val (.int (p6 &&& (65535 : Int32))), .val (.int (1 : Int32))] [(.int (p3.toInt8.toInt32)), (.int (f6 (2 : Int32) (([(0 : Int32), (0 : Int32), (0 : Int32), (0 : Int32), (0 : Int32), (0 : Int32), (0 : Int32), (0 : Int32)].set (((0 : Int32) &&& (65535 : Int32))).toNatClampNeg (nar .byte (p1.toInt8.toInt32))).set ((((0 : Int32) + (1 : Int32)) &&& (65535 : Int32))).toNatClampNeg (nar .byte (p3.toInt8.toInt32)))))])) _
              refine XS.icmpYes X37.here hx rfl (pc0 := 168) (pc' := 175) rfl (hb hby at_168) rfl (feq hc39).2 (by decide) (by decide) ?_
              show Steps p.tables e below (T37.setTop (mkF m 175 _ [])) _
              refine XS.iconst X37.here hx rfl (hb hby at_175) ?_
              show Steps p.tables e below (T37.setTop (mkF m 176 _ [(.int (0 : Int32))])) _
              refine XS.istore X37.here hx rfl (hb hby at_176) rfl (l' := #[.val (.int p1), .val (.int p2), .val (.int p3), .val (.int p4), .val (.int p5), .val (.int p6), .val (.ref b7), .val (.int (own_k p4)), .val (.int (p1.toInt8.toInt32)), .val (.int (p2.toInt8.toInt32)), .val (.int (p3.toInt8.toInt32)), .val (.int (p5 &&& (65535 : Int32))), .val (.int (p6 &&& (65535 : Int32))), .val (.int (0 : Int32))]) rfl ?_
              show Steps p.tables e below (T37.setTop (mkF m 178 _ [])) _
              refine XS.iload X37.here hx rfl (hb hby at_178) rfl ?_
              show Steps p.tables e below (T37.setTop (mkF m 180 #[.val (.int p1), .val (.int p2), .val (.int p3), .val (.int p4), .val (.int p5), .val (.int p6), .val (.ref b7), .val (.int (own_k p4)), .val (.int (p1.toInt8.toInt32)), .val (.int (p2.toInt8.toInt32)), .val (.int (p3.toInt8.toInt32)), .val (.int (p5 &&& (65535 : Int32))), .val (.int (p6 &&& (65535 : Int32))), .val (.int (0 : Int32))] [(.int (0 : Int32))])) _
              exact retN X37 hx (t := .boolean) Bd.returns (by simp) (hb hby at_180) hr
            · show Q0 Z p1 p2 p3 p4 p5 p6 h0 n0 _ T37.heap _
              rw [e37]
              exact ⟨congrArg (fun z => some (Value.int z)) (by rw [f0, if_pos hc13, if_neg hc15, if_pos hc33, if_pos hc36, if_neg hc39] : f0 p1 p2 p3 p4 p5 p6 = (0 : Int32)).symm, N37⟩
        · skip
          obtain ⟨fs, hr, hrun, hended, hW, hsame⟩ := X34.leave (v := some (.int (0 : Int32))) (fun h => by rw [Bd.returns] at h; cases h) (by first | exact BodyLoose.notSynchronized Bd | exact Body.notSynchronized Bd)
          refine ⟨_, _, pre35 _ ?_, hrun, hended, _, _, rfl, ?_, ⟨_, rfl⟩, hW, hsame.mono (by decide) (by decide)⟩
          · show Steps p.tables e below (T34.setTop (mkF m 110 #[.val (.int p1), .val (.int p2), .val (.int p3), .val (.int p4), .val (.int p5), .val (.int p6), .val (.ref b7), .val (.int (own_k p4)), .val (.int (p1.toInt8.toInt32)), .val (.int (p2.toInt8.toInt32)), .val (.int (p3.toInt8.toInt32)), .val (.int (p5 &&& (65535 : Int32))), .val (.int (p6 &&& (65535 : Int32))), .unset] [(.int (p1.toInt8.toInt32)), (.int (f6 (0 : Int32) (([(0 : Int32), (0 : Int32), (0 : Int32), (0 : Int32), (0 : Int32), (0 : Int32), (0 : Int32), (0 : Int32)].set (((0 : Int32) &&& (65535 : Int32))).toNatClampNeg (nar .byte (p1.toInt8.toInt32))).set ((((0 : Int32) + (1 : Int32)) &&& (65535 : Int32))).toNatClampNeg (nar .byte (p3.toInt8.toInt32)))))])) _
            refine XS.icmpYes X34.here hx rfl (pc0 := 110) (pc' := 117) rfl (hb hby at_110) rfl (feq hc36).2 (by decide) (by decide) ?_
            show Steps p.tables e below (T34.setTop (mkF m 117 _ [])) _
            refine XS.iconst X34.here hx rfl (hb hby at_117) ?_
            show Steps p.tables e below (T34.setTop (mkF m 118 _ [(.int (0 : Int32))])) _
            refine XS.istore X34.here hx rfl (hb hby at_118) rfl (l' := #[.val (.int p1), .val (.int p2), .val (.int p3), .val (.int p4), .val (.int p5), .val (.int p6), .val (.ref b7), .val (.int (own_k p4)), .val (.int (p1.toInt8.toInt32)), .val (.int (p2.toInt8.toInt32)), .val (.int (p3.toInt8.toInt32)), .val (.int (p5 &&& (65535 : Int32))), .val (.int (p6 &&& (65535 : Int32))), .val (.int (0 : Int32))]) rfl ?_
            show Steps p.tables e below (T34.setTop (mkF m 120 _ [])) _
            refine XS.iload X34.here hx rfl (hb hby at_120) rfl ?_
            show Steps p.tables e below (T34.setTop (mkF m 122 _ [(.int (own_k p4))])) _
            refine XS.iconst X34.here hx rfl (hb hby at_122) ?_
            show Steps p.tables e below (T34.setTop (mkF m 123 _ [(.int (2 : Int32)), (.int (own_k p4))])) _
            refine XS.icmpYes X34.here hx rfl (pc0 := 123) (pc' := 149) rfl (hb hby at_123) rfl (tlt hc13).1 (by decide) (by decide) ?_
            show Steps p.tables e below (T34.setTop (mkF m 149 _ [])) _
            refine XS.iload X34.here hx rfl (hb hby at_149) rfl ?_
            show Steps p.tables e below (T34.setTop (mkF m 151 _ [(.int (own_k p4))])) _
            refine XS.iconst X34.here hx rfl (hb hby at_151) ?_
            show Steps p.tables e below (T34.setTop (mkF m 152 _ [(.int (3 : Int32)), (.int (own_k p4))])) _
            refine XS.icmpNo X34.here hx rfl (hb hby at_152) rfl (flt hc15).1 ?_
            show Steps p.tables e below (T34.setTop (mkF m 155 _ [])) _
            refine XS.iload X34.here hx rfl (hb hby at_155) rfl ?_
            show Steps p.tables e below (T34.setTop (mkF m 157 _ [(.int (0 : Int32))])) _
            refine XS.ifYes X34.here hx rfl (pc0 := 157) (pc' := 175) rfl (hb hby at_157) rfl ((if0 _ _).trans (teq (by decide)).1) (by decide) (by decide) ?_
            show Steps p.tables e below (T34.setTop (mkF m 175 _ [])) _
            refine XS.iconst X34.here hx rfl (hb hby at_175) ?_
            show Steps p.tables e below (T34.setTop (mkF m 176 _ [(.int (0 : Int32))])) _
            refine XS.istore X34.here hx rfl (hb hby at_176) rfl (l' := #[.val (.int p1), .val (.int p2), .val (.int p3), .val (.int p4), .val (.int p5), .val (.int p6), .val (.ref b7), .val (.int (own_k p4)), .val (.int (p1.toInt8.toInt32)), .val (.int (p2.toInt8.toInt32)), .val (.int (p3.toInt8.toInt32)), .val (.int (p5 &&& (65535 : Int32))), .val (.int (p6 &&& (65535 : Int32))), .val (.int (0 : Int32))]) rfl ?_
            show Steps p.tables e below (T34.setTop (mkF m 178 _ [])) _
            refine XS.iload X34.here hx rfl (hb hby at_178) rfl ?_
            show Steps p.tables e below (T34.setTop (mkF m 180 #[.val (.int p1), .val (.int p2), .val (.int p3), .val (.int p4), .val (.int p5), .val (.int p6), .val (.ref b7), .val (.int (own_k p4)), .val (.int (p1.toInt8.toInt32)), .val (.int (p2.toInt8.toInt32)), .val (.int (p3.toInt8.toInt32)), .val (.int (p5 &&& (65535 : Int32))), .val (.int (p6 &&& (65535 : Int32))), .val (.int (0 : Int32))] [(.int (0 : Int32))])) _
            exact retN X34 hx (t := .boolean) Bd.returns (by simp) (hb hby at_180) hr
          · show Q0 Z p1 p2 p3 p4 p5 p6 h0 n0 _ T34.heap _
            rw [e34]
            exact ⟨congrArg (fun z => some (Value.int z)) (by rw [f0, if_pos hc13, if_neg hc15, if_pos hc33, if_neg hc36] : f0 p1 p2 p3 p4 p5 p6 = (0 : Int32)).symm, N34⟩
      · skip
        obtain ⟨fs, hr, hrun, hended, hW, hsame⟩ := X31.leave (v := some (.int (0 : Int32))) (fun h => by rw [Bd.returns] at h; cases h) (by first | exact BodyLoose.notSynchronized Bd | exact Body.notSynchronized Bd)
        refine ⟨_, _, pre32 _ ?_, hrun, hended, _, _, rfl, ?_, ⟨_, rfl⟩, hW, hsame.mono (by decide) (by decide)⟩
        · show Steps p.tables e below (T31.setTop (mkF m 99 #[.val (.int p1), .val (.int p2), .val (.int p3), .val (.int p4), .val (.int p5), .val (.int p6), .val (.ref b7), .val (.int (own_k p4)), .val (.int (p1.toInt8.toInt32)), .val (.int (p2.toInt8.toInt32)), .val (.int (p3.toInt8.toInt32)), .val (.int (p5 &&& (65535 : Int32))), .val (.int (p6 &&& (65535 : Int32))), .unset] [(.int (own_k p4)), (.int (((0 : Int32) + (1 : Int32)) + (1 : Int32)))])) _
          refine XS.icmpYes X31.here hx rfl (pc0 := 99) (pc' := 117) rfl (hb hby at_99) rfl (feq hc33).2 (by decide) (by decide) ?_
          show Steps p.tables e below (T31.setTop (mkF m 117 _ [])) _
          refine XS.iconst X31.here hx rfl (hb hby at_117) ?_
          show Steps p.tables e below (T31.setTop (mkF m 118 _ [(.int (0 : Int32))])) _
          refine XS.istore X31.here hx rfl (hb hby at_118) rfl (l' := #[.val (.int p1), .val (.int p2), .val (.int p3), .val (.int p4), .val (.int p5), .val (.int p6), .val (.ref b7), .val (.int (own_k p4)), .val (.int (p1.toInt8.toInt32)), .val (.int (p2.toInt8.toInt32)), .val (.int (p3.toInt8.toInt32)), .val (.int (p5 &&& (65535 : Int32))), .val (.int (p6 &&& (65535 : Int32))), .val (.int (0 : Int32))]) rfl ?_
          show Steps p.tables e below (T31.setTop (mkF m 120 _ [])) _
          refine XS.iload X31.here hx rfl (hb hby at_120) rfl ?_
          show Steps p.tables e below (T31.setTop (mkF m 122 _ [(.int (own_k p4))])) _
          refine XS.iconst X31.here hx rfl (hb hby at_122) ?_
          show Steps p.tables e below (T31.setTop (mkF m 123 _ [(.int (2 : Int32)), (.int (own_k p4))])) _
          refine XS.icmpYes X31.here hx rfl (pc0 := 123) (pc' := 149) rfl (hb hby at_123) rfl (tlt hc13).1 (by decide) (by decide) ?_
          show Steps p.tables e below (T31.setTop (mkF m 149 _ [])) _
          refine XS.iload X31.here hx rfl (hb hby at_149) rfl ?_
          show Steps p.tables e below (T31.setTop (mkF m 151 _ [(.int (own_k p4))])) _
          refine XS.iconst X31.here hx rfl (hb hby at_151) ?_
          show Steps p.tables e below (T31.setTop (mkF m 152 _ [(.int (3 : Int32)), (.int (own_k p4))])) _
          refine XS.icmpNo X31.here hx rfl (hb hby at_152) rfl (flt hc15).1 ?_
          show Steps p.tables e below (T31.setTop (mkF m 155 _ [])) _
          refine XS.iload X31.here hx rfl (hb hby at_155) rfl ?_
          show Steps p.tables e below (T31.setTop (mkF m 157 _ [(.int (0 : Int32))])) _
          refine XS.ifYes X31.here hx rfl (pc0 := 157) (pc' := 175) rfl (hb hby at_157) rfl ((if0 _ _).trans (teq (by decide)).1) (by decide) (by decide) ?_
          show Steps p.tables e below (T31.setTop (mkF m 175 _ [])) _
          refine XS.iconst X31.here hx rfl (hb hby at_175) ?_
          show Steps p.tables e below (T31.setTop (mkF m 176 _ [(.int (0 : Int32))])) _
          refine XS.istore X31.here hx rfl (hb hby at_176) rfl (l' := #[.val (.int p1), .val (.int p2), .val (.int p3), .val (.int p4), .val (.int p5), .val (.int p6), .val (.ref b7), .val (.int (own_k p4)), .val (.int (p1.toInt8.toInt32)), .val (.int (p2.toInt8.toInt32)), .val (.int (p3.toInt8.toInt32)), .val (.int (p5 &&& (65535 : Int32))), .val (.int (p6 &&& (65535 : Int32))), .val (.int (0 : Int32))]) rfl ?_
          show Steps p.tables e below (T31.setTop (mkF m 178 _ [])) _
          refine XS.iload X31.here hx rfl (hb hby at_178) rfl ?_
          show Steps p.tables e below (T31.setTop (mkF m 180 #[.val (.int p1), .val (.int p2), .val (.int p3), .val (.int p4), .val (.int p5), .val (.int p6), .val (.ref b7), .val (.int (own_k p4)), .val (.int (p1.toInt8.toInt32)), .val (.int (p2.toInt8.toInt32)), .val (.int (p3.toInt8.toInt32)), .val (.int (p5 &&& (65535 : Int32))), .val (.int (p6 &&& (65535 : Int32))), .val (.int (0 : Int32))] [(.int (0 : Int32))])) _
          exact retN X31 hx (t := .boolean) Bd.returns (by simp) (hb hby at_180) hr
        · show Q0 Z p1 p2 p3 p4 p5 p6 h0 n0 _ T31.heap _
          rw [e31]
          exact ⟨congrArg (fun z => some (Value.int z)) (by rw [f0, if_pos hc13, if_neg hc15, if_neg hc33] : f0 p1 p2 p3 p4 p5 p6 = (0 : Int32)).symm, N31⟩
  · skip
    have Zs41 : n0 ≤ T10.heap.size := (Nat.le_trans Zs11 Kp10.1)
    obtain ⟨cq40, kq40, q40a, q40b, q40c⟩ := isOf hZ rfl qp10_0
    obtain ⟨_, _, ⟨T40, L40, k40, n40⟩, -, X40, ⟨Lc40, hQ40, l40, y40, z40⟩, st40⟩ := X10.virtualBack hx (y := (⟨"com/example/loadstone/loadstone/ByteChunks", "put", "(B)V"⟩ : MethodName)) (z := (⟨"com/example/loadstone/loadstone/ByteChunks", "put", "(B)V"⟩ : MethodName)) hown (mvT hZ (hw _ (List.mem_of_getElem? (i := 14) rfl))) (mvT hZ (hw _ (List.mem_of_getElem? (i := 15) rfl))) (notFace_of_selects (args := #[]) (mvT hZ (hw _ (List.mem_of_getElem? (i := 17) rfl)))) (mvT hZ (hw _ (List.mem_of_getElem? (i := 17) rfl))) (mvT hZ (hw _ (List.mem_of_getElem? (i := 16) rfl))) (by decide) (backOf (W := 0) (rm3 l Z a0 hw [] b7 (p2.toInt8.toInt32) b8_b3 ((0 : Int32) + (1 : Int32)) (.int (0 : Int32)) k8_b3 b10_b9 k10_b9 ([(0 : Int32), (0 : Int32), (0 : Int32), (0 : Int32), (0 : Int32), (0 : Int32), (0 : Int32), (0 : Int32)].set (((0 : Int32) &&& (65535 : Int32))).toNatClampNeg (nar .byte (p1.toInt8.toInt32))) (65536 : Int32) T10.heap n0 Zs41 (by decide) qp10_0 qp10_1 qp10_2 qp10_3 qp10_4 qp10_5 qp10_6 ⟨by decide, by decide⟩ ne_b7_b10_b9 ne_b8_b3_b10_b9 (by first | decide | (simp only [List.length_set]; decide)) g_b10_b9 (Ne.symm ne_b7_b8_b3) g_b7) hZ (hw _ (List.mem_of_getElem? (i := 18) rfl)) (hw _ (List.mem_of_getElem? (i := 2) rfl)) (by decide) (by decide)) q40a q40c (g := (mkF m 48 #[.val (.int p1), .val (.int p2), .val (.int p3), .val (.int p4), .val (.int p5), .val (.int p6), .val (.ref b7), .val (.int (own_k p4)), .val (.int (p1.toInt8.toInt32)), .val (.int (p2.toInt8.toInt32)), .val (.int (p3.toInt8.toInt32)), .unset, .unset, .unset] [(.int (p2.toInt8.toInt32)), (.ref b7)])) rfl (by rw [hml]; rfl) (Steps.refl _) (argsL := [(.int (p2.toInt8.toInt32))]) (rest := []) (lenOf pd_0_1 rfl) rfl (by show 2 * 0 + _ ≤ _; exact Nat.le_of_eq rfl) (hb hby at_48) (fun _ _ => ⟨rfl, rfl, (by decide : 3 + 0 ≤ _), (by decide : 65540 + 0 ≤ _)⟩)
    dsimp only [Pt.U, Pt.locs, Pt.cells, Pt.slots] at X40 l40 y40 z40 st40 hQ40
    subst l40 y40 z40
    obtain ⟨rfl, N40q, Kp40, qp40_0, qp40_1, qp40_2, qp40_3, qp40_4⟩ := hQ40
    have N40 := Fr.app N10 N40q
    have pre42 : ∀ t, Steps p.tables e below (T40.setTop (mkF m 54 #[.val (.int p1), .val (.int p2), .val (.int p3), .val (.int p4), .val (.int p5), .val (.int p6), .val (.ref b7), .val (.int (own_k p4)), .val (.int (p1.toInt8.toInt32)), .val (.int (p2.toInt8.toInt32)), .val (.int (p3.toInt8.toInt32)), .unset, .unset, .unset] [(.int (3 : Int32)), (.int (own_k p4))])) t → Steps p.tables e below (s₁.setTop (entryFrame m #[(.int p1), (.int p2), (.int p3), (.int p4), (.int p5), (.int p6)] maxLocals)) t := fun t kt => by
      refine pre12 _ ?_
      show Steps p.tables e below (T10.setTop (mkF m 41 #[.val (.int p1), .val (.int p2), .val (.int p3), .val (.int p4), .val (.int p5), .val (.int p6), .val (.ref b7), .val (.int (own_k p4)), .val (.int (p1.toInt8.toInt32)), .val (.int (p2.toInt8.toInt32)), .val (.int (p3.toInt8.toInt32)), .unset, .unset, .unset] [(.int (2 : Int32)), (.int (own_k p4))])) _
      refine XS.icmpNo X10.here hx rfl (hb hby at_41) rfl (flt hc13).1 ?_
      show Steps p.tables e below (T10.setTop (mkF m 44 _ [])) _
      refine XS.aload X10.here hx rfl (hb hby at_44) rfl rfl ?_
      show Steps p.tables e below (T10.setTop (mkF m 46 _ [(.ref b7)])) _
      refine XS.iload X10.here hx rfl (hb hby at_46) rfl ?_
      show Steps p.tables e below (T10.setTop (mkF m 48 _ [(.int (p2.toInt8.toInt32)), (.ref b7)])) _
      refine st40.trans ?_
      show Steps p.tables e below (T40.setTop (mkF m 51 _ [])) _
      refine XS.iload X40.here hx rfl (hb hby at_51) rfl ?_
      show Steps p.tables e below (T40.setTop (mkF m 53 _ [(.int (own_k p4))])) _
      refine XS.iconst X40.here hx rfl (hb hby at_53) ?_
      exact kt
    by_cases hc43 : (own_k p4) < (3 : Int32)
    · skip
      have Av45 := (qp10_4.keep Kp40 (ninS ne_b8_b3_b10_b9 (ninS (Ne.symm ne_b7_b8_b3) nin0)))
      have Zs46 : n0 ≤ T40.heap.size := (Nat.le_trans Zs41 Kp40.1)
      obtain ⟨cq44, kq44, q44a, q44b, q44c⟩ := isOf hZ rfl qp40_0
      obtain ⟨_, _, ⟨T44, L44, k44, n44⟩, -, X44, ⟨Lc44, hQ44, l44, y44, z44⟩, st44⟩ := X40.virtualBack hx (y := (⟨"com/example/loadstone/loadstone/ByteChunks", "release", "(I)V"⟩ : MethodName)) (z := (⟨"com/example/loadstone/loadstone/ByteChunks", "release", "(I)V"⟩ : MethodName)) hown (mvT hZ (hw _ (List.mem_of_getElem? (i := 26) rfl))) (mvT hZ (hw _ (List.mem_of_getElem? (i := 27) rfl))) (notFace_of_selects (args := #[]) (mvT hZ (hw _ (List.mem_of_getElem? (i := 29) rfl)))) (mvT hZ (hw _ (List.mem_of_getElem? (i := 29) rfl))) (mvT hZ (hw _ (List.mem_of_getElem? (i := 28) rfl))) (by decide) (backOf (W := 0) (rm4 l Z a0 hw [] b7 (p5 &&& (65535 : Int32)) (0 : Int32) T40.heap n0 Zs46 (own_rel p5) qp40_3) hZ (hw _ (List.mem_of_getElem? (i := 30) rfl)) (hw _ (List.mem_of_getElem? (i := 2) rfl)) (by decide) (by decide)) q44a q44c (g := (mkF m 82 #[.val (.int p1), .val (.int p2), .val (.int p3), .val (.int p4), .val (.int p5), .val (.int p6), .val (.ref b7), .val (.int (own_k p4)), .val (.int (p1.toInt8.toInt32)), .val (.int (p2.toInt8.toInt32)), .val (.int (p3.toInt8.toInt32)), .val (.int (p5 &&& (65535 : Int32))), .val (.int (p6 &&& (65535 : Int32))), .unset] [(.int (p5 &&& (65535 : Int32))), (.ref b7)])) rfl (by rw [hml]; rfl) (Steps.refl _) (argsL := [(.int (p5 &&& (65535 : Int32)))]) (rest := []) (lenOf pd_0_2 rfl) rfl (by show 2 * 0 + _ ≤ _; exact Nat.le_of_eq rfl) (hb hby at_82) (fun _ _ => ⟨rfl, rfl, (by decide : 3 + 0 ≤ _), (by decide : 65540 + 0 ≤ _)⟩)
      dsimp only [Pt.U, Pt.locs, Pt.cells, Pt.slots] at X44 l44 y44 z44 st44 hQ44
      subst l44 y44 z44
      obtain ⟨rfl, N44q, e44⟩ := hQ44
      have N44 := Fr.app N40 N44q
      obtain ⟨cq47, kq47, q47a, q47b, q47c⟩ := isOf hZ e44 qp40_0
      obtain ⟨_, _, ⟨T47, L47, k47, n47⟩, -, X47, ⟨Lc47, hQ47, l47, y47, z47⟩, st47⟩ := X44.virtualBack hx (y := (⟨"com/example/loadstone/loadstone/ByteChunks", "release", "(I)V"⟩ : MethodName)) (z := (⟨"com/example/loadstone/loadstone/ByteChunks", "release", "(I)V"⟩ : MethodName)) hown (mvT hZ (hw _ (List.mem_of_getElem? (i := 26) rfl))) (mvT hZ (hw _ (List.mem_of_getElem? (i := 27) rfl))) (notFace_of_selects (args := #[]) (mvT hZ (hw _ (List.mem_of_getElem? (i := 29) rfl)))) (mvT hZ (hw _ (List.mem_of_getElem? (i := 29) rfl))) (mvT hZ (hw _ (List.mem_of_getElem? (i := 28) rfl))) (by decide) (backOf (W := 0) (rm4 l Z a0 hw [] b7 (p6 &&& (65535 : Int32)) (0 : Int32) T40.heap n0 Zs46 (own_rel p6) qp40_3) hZ (hw _ (List.mem_of_getElem? (i := 30) rfl)) (hw _ (List.mem_of_getElem? (i := 2) rfl)) (by decide) (by decide)) q47a q47c (g := (mkF m 89 #[.val (.int p1), .val (.int p2), .val (.int p3), .val (.int p4), .val (.int p5), .val (.int p6), .val (.ref b7), .val (.int (own_k p4)), .val (.int (p1.toInt8.toInt32)), .val (.int (p2.toInt8.toInt32)), .val (.int (p3.toInt8.toInt32)), .val (.int (p5 &&& (65535 : Int32))), .val (.int (p6 &&& (65535 : Int32))), .unset] [(.int (p6 &&& (65535 : Int32))), (.ref b7)])) rfl (by rw [hml]; rfl) (Steps.refl _) (argsL := [(.int (p6 &&& (65535 : Int32)))]) (rest := []) (lenOf pd_0_2 rfl) rfl (by show 2 * 0 + _ ≤ _; exact Nat.le_of_eq rfl) (hb hby at_89) (fun _ _ => ⟨rfl, e44, (by decide : 3 + 0 ≤ _), (by decide : 65540 + 0 ≤ _)⟩)
      dsimp only [Pt.U, Pt.locs, Pt.cells, Pt.slots] at X47 l47 y47 z47 st47 hQ47
      subst l47 y47 z47
      obtain ⟨rfl, N47q, e47⟩ := hQ47
      have N47 := Fr.app N44 N47q
      obtain ⟨cq48, kq48, q48a, q48b, q48c⟩ := isOf hZ e47 qp40_0
      obtain ⟨_, _, ⟨T48, L48, k48, n48⟩, -, X48, ⟨Lc48, hQ48, l48, y48, z48⟩, st48⟩ := X47.virtualBack hx (y := (⟨"com/example/loadstone/loadstone/ByteChunks", "length", "()I"⟩ : MethodName)) (z := (⟨"com/example/loadstone/loadstone/ByteChunks", "length", "()I"⟩ : MethodName)) hown (mvT hZ (hw _ (List.mem_of_getElem? (i := 33) rfl))) (mvT hZ (hw _ (List.mem_of_getElem? (i := 34) rfl))) (notFace_of_selects (args := #[]) (mvT hZ (hw _ (List.mem_of_getElem? (i := 36) rfl)))) (mvT hZ (hw _ (List.mem_of_getElem? (i := 36) rfl))) (mvT hZ (hw _ (List.mem_of_getElem? (i := 35) rfl))) (by decide) (backOf (W := 0) (rm5 l Z a0 hw [] b7 (((0 : Int32) + (1 : Int32)) + (1 : Int32)) T40.heap n0 Zs46 qp40_2) hZ (hw _ (List.mem_of_getElem? (i := 37) rfl)) (hw _ (List.mem_of_getElem? (i := 2) rfl)) (by decide) (by decide)) q48a q48c (g := (mkF m 94 #[.val (.int p1), .val (.int p2), .val (.int p3), .val (.int p4), .val (.int p5), .val (.int p6), .val (.ref b7), .val (.int (own_k p4)), .val (.int (p1.toInt8.toInt32)), .val (.int (p2.toInt8.toInt32)), .val (.int (p3.toInt8.toInt32)), .val (.int (p5 &&& (65535 : Int32))), .val (.int (p6 &&& (65535 : Int32))), .unset] [(.ref b7)])) rfl (by rw [hml]; rfl) (Steps.refl _) (argsL := []) (rest := []) (lenOf pd_0_3 rfl) rfl (by show 2 * 0 + _ ≤ _; exact Nat.le_of_eq rfl) (hb hby at_94) (fun _ _ => ⟨rfl, e47, (by decide : 3 + 0 ≤ _), (by decide : 65540 + 0 ≤ _)⟩)
      dsimp only [Pt.U, Pt.locs, Pt.cells, Pt.slots] at X48 l48 y48 z48 st48 hQ48
      subst l48 y48 z48
      obtain ⟨rfl, N48q, e48⟩ := hQ48
      have N48 := Fr.app N47 N48q
      have pre49 : ∀ t, Steps p.tables e below (T48.setTop (mkF m 99 #[.val (.int p1), .val (.int p2), .val (.int p3), .val (.int p4), .val (.int p5), .val (.int p6), .val (.ref b7), .val (.int (own_k p4)), .val (.int (p1.toInt8.toInt32)), .val (.int (p2.toInt8.toInt32)), .val (.int (p3.toInt8.toInt32)), .val (.int (p5 &&& (65535 : Int32))), .val (.int (p6 &&& (65535 : Int32))), .unset] [(.int (own_k p4)), (.int (((0 : Int32) + (1 : Int32)) + (1 : Int32)))])) t → Steps p.tables e below (s₁.setTop (entryFrame m #[(.int p1), (.int p2), (.int p3), (.int p4), (.int p5), (.int p6)] maxLocals)) t := fun t kt => by
        refine pre42 _ ?_
        show Steps p.tables e below (T40.setTop (mkF m 54 #[.val (.int p1), .val (.int p2), .val (.int p3), .val (.int p4), .val (.int p5), .val (.int p6), .val (.ref b7), .val (.int (own_k p4)), .val (.int (p1.toInt8.toInt32)), .val (.int (p2.toInt8.toInt32)), .val (.int (p3.toInt8.toInt32)), .unset, .unset, .unset] [(.int (3 : Int32)), (.int (own_k p4))])) _
        refine XS.icmpYes X40.here hx rfl (pc0 := 54) (pc' := 64) rfl (hb hby at_54) rfl (tlt hc43).1 (by decide) (by decide) ?_
        show Steps p.tables e below (T40.setTop (mkF m 64 _ [])) _
        refine XS.iload X40.here hx rfl (hb hby at_64) rfl ?_
        show Steps p.tables e below (T40.setTop (mkF m 66 _ [(.int p5)])) _
        refine X40.ldcInt hx hown (mvT hZ (hw _ (List.mem_of_getElem? (i := 25) rfl))) (g := (mkF m 66 #[.val (.int p1), .val (.int p2), .val (.int p3), .val (.int p4), .val (.int p5), .val (.int p6), .val (.ref b7), .val (.int (own_k p4)), .val (.int (p1.toInt8.toInt32)), .val (.int (p2.toInt8.toInt32)), .val (.int (p3.toInt8.toInt32)), .unset, .unset, .unset] [(.int p5)])) rfl (hb hby at_66) _ ?_
        show Steps p.tables e below (T40.setTop (mkF m 68 _ [(.int (65535 : Int32)), (.int p5)])) _
        refine XS.iand X40.here hx rfl (hb hby at_68) rfl ?_
        show Steps p.tables e below (T40.setTop (mkF m 69 _ [(.int (p5 &&& (65535 : Int32)))])) _
        refine XS.istore X40.here hx rfl (hb hby at_69) rfl (l' := #[.val (.int p1), .val (.int p2), .val (.int p3), .val (.int p4), .val (.int p5), .val (.int p6), .val (.ref b7), .val (.int (own_k p4)), .val (.int (p1.toInt8.toInt32)), .val (.int (p2.toInt8.toInt32)), .val (.int (p3.toInt8.toInt32)), .val (.int (p5 &&& (65535 : Int32))), .unset, .unset]) rfl ?_
        show Steps p.tables e below (T40.setTop (mkF m 71 _ [])) _
        refine XS.iload X40.here hx rfl (hb hby at_71) rfl ?_
        show Steps p.tables e below (T40.setTop (mkF m 73 _ [(.int p6)])) _
        refine X40.ldcInt hx hown (mvT hZ (hw _ (List.mem_of_getElem? (i := 25) rfl))) (g := (mkF m 73 #[.val (.int p1), .val (.int p2), .val (.int p3), .val (.int p4), .val (.int p5), .val (.int p6), .val (.ref b7), .val (.int (own_k p4)), .val (.int (p1.toInt8.toInt32)), .val (.int (p2.toInt8.toInt32)), .val (.int (p3.toInt8.toInt32)), .val (.int (p5 &&& (65535 : Int32))), .unset, .unset] [(.int p6)])) rfl (hb hby at_73) _ ?_
        show Steps p.tables e below (T40.setTop (mkF m 75 _ [(.int (65535 : Int32)), (.int p6)])) _
        refine XS.iand X40.here hx rfl (hb hby at_75) rfl ?_
        show Steps p.tables e below (T40.setTop (mkF m 76 _ [(.int (p6 &&& (65535 : Int32)))])) _
        refine XS.istore X40.here hx rfl (hb hby at_76) rfl (l' := #[.val (.int p1), .val (.int p2), .val (.int p3), .val (.int p4), .val (.int p5), .val (.int p6), .val (.ref b7), .val (.int (own_k p4)), .val (.int (p1.toInt8.toInt32)), .val (.int (p2.toInt8.toInt32)), .val (.int (p3.toInt8.toInt32)), .val (.int (p5 &&& (65535 : Int32))), .val (.int (p6 &&& (65535 : Int32))), .unset]) rfl ?_
        show Steps p.tables e below (T40.setTop (mkF m 78 _ [])) _
        refine XS.aload X40.here hx rfl (hb hby at_78) rfl rfl ?_
        show Steps p.tables e below (T40.setTop (mkF m 80 _ [(.ref b7)])) _
        refine XS.iload X40.here hx rfl (hb hby at_80) rfl ?_
        show Steps p.tables e below (T40.setTop (mkF m 82 _ [(.int (p5 &&& (65535 : Int32))), (.ref b7)])) _
        refine st44.trans ?_
        show Steps p.tables e below (T44.setTop (mkF m 85 _ [])) _
        refine XS.aload X44.here hx rfl (hb hby at_85) rfl rfl ?_
        show Steps p.tables e below (T44.setTop (mkF m 87 _ [(.ref b7)])) _
        refine XS.iload X44.here hx rfl (hb hby at_87) rfl ?_
        show Steps p.tables e below (T44.setTop (mkF m 89 _ [(.int (p6 &&& (65535 : Int32))), (.ref b7)])) _
        refine st47.trans ?_
        show Steps p.tables e below (T47.setTop (mkF m 92 _ [])) _
        refine XS.aload X47.here hx rfl (hb hby at_92) rfl rfl ?_
        show Steps p.tables e below (T47.setTop (mkF m 94 _ [(.ref b7)])) _
        refine st48.trans ?_
        show Steps p.tables e below (T48.setTop (mkF m 97 _ [(.int (((0 : Int32) + (1 : Int32)) + (1 : Int32)))])) _
        refine XS.iload X48.here hx rfl (hb hby at_97) rfl ?_
        exact kt
      by_cases hc50 : (((0 : Int32) + (1 : Int32)) + (1 : Int32)) = (own_k p4)
      · skip
        obtain ⟨cq51, kq51, q51a, q51b, q51c⟩ := isOf hZ e48 qp40_0
        obtain ⟨_, _, ⟨T51, L51, k51, n51⟩, -, X51, ⟨Lc51, hQ51, l51, y51, z51⟩, st51⟩ := X48.virtualBack hx (y := (⟨"com/example/loadstone/loadstone/ByteChunks", "at", "(I)B"⟩ : MethodName)) (z := (⟨"com/example/loadstone/loadstone/ByteChunks", "at", "(I)B"⟩ : MethodName)) hown (mvT hZ (hw _ (List.mem_of_getElem? (i := 38) rfl))) (mvT hZ (hw _ (List.mem_of_getElem? (i := 39) rfl))) (notFace_of_selects (args := #[]) (mvT hZ (hw _ (List.mem_of_getElem? (i := 41) rfl)))) (mvT hZ (hw _ (List.mem_of_getElem? (i := 41) rfl))) (mvT hZ (hw _ (List.mem_of_getElem? (i := 40) rfl))) (by decide) (backOf (W := 0) (rm6 l Z a0 hw [] b7 (0 : Int32) b8_b3 k8_b3 b10_b9 k10_b9 (([(0 : Int32), (0 : Int32), (0 : Int32), (0 : Int32), (0 : Int32), (0 : Int32), (0 : Int32), (0 : Int32)].set (((0 : Int32) &&& (65535 : Int32))).toNatClampNeg (nar .byte (p1.toInt8.toInt32))).set ((((0 : Int32) + (1 : Int32)) &&& (65535 : Int32))).toNatClampNeg (nar .byte (p2.toInt8.toInt32))) (65536 : Int32) T40.heap n0 Zs46 (by decide) qp40_1 Av45 qp10_5 qp40_4 ⟨by decide, by decide⟩) hZ (hw _ (List.mem_of_getElem? (i := 42) rfl)) (hw _ (List.mem_of_getElem? (i := 2) rfl)) (by decide) (by decide)) q51a q51c (g := (mkF m 105 #[.val (.int p1), .val (.int p2), .val (.int p3), .val (.int p4), .val (.int p5), .val (.int p6), .val (.ref b7), .val (.int (own_k p4)), .val (.int (p1.toInt8.toInt32)), .val (.int (p2.toInt8.toInt32)), .val (.int (p3.toInt8.toInt32)), .val (.int (p5 &&& (65535 : Int32))), .val (.int (p6 &&& (65535 : Int32))), .unset] [(.int (0 : Int32)), (.ref b7)])) rfl (by rw [hml]; rfl) (Steps.refl _) (argsL := [(.int (0 : Int32))]) (rest := []) (lenOf pd_0_4 rfl) rfl (by show 2 * 0 + _ ≤ _; exact Nat.le_of_eq rfl) (hb hby at_105) (fun _ _ => ⟨rfl, e48, (by decide : 3 + 0 ≤ _), (by decide : 65540 + 0 ≤ _)⟩)
        dsimp only [Pt.U, Pt.locs, Pt.cells, Pt.slots] at X51 l51 y51 z51 st51 hQ51
        subst l51 y51 z51
        obtain ⟨rfl, N51q, e51⟩ := hQ51
        have N51 := Fr.app N48 N51q
        have pre52 : ∀ t, Steps p.tables e below (T51.setTop (mkF m 110 #[.val (.int p1), .val (.int p2), .val (.int p3), .val (.int p4), .val (.int p5), .val (.int p6), .val (.ref b7), .val (.int (own_k p4)), .val (.int (p1.toInt8.toInt32)), .val (.int (p2.toInt8.toInt32)), .val (.int (p3.toInt8.toInt32)), .val (.int (p5 &&& (65535 : Int32))), .val (.int (p6 &&& (65535 : Int32))), .unset] [(.int (p1.toInt8.toInt32)), (.int (f6 (0 : Int32) (([(0 : Int32), (0 : Int32), (0 : Int32), (0 : Int32), (0 : Int32), (0 : Int32), (0 : Int32), (0 : Int32)].set (((0 : Int32) &&& (65535 : Int32))).toNatClampNeg (nar .byte (p1.toInt8.toInt32))).set ((((0 : Int32) + (1 : Int32)) &&& (65535 : Int32))).toNatClampNeg (nar .byte (p2.toInt8.toInt32)))))])) t → Steps p.tables e below (s₁.setTop (entryFrame m #[(.int p1), (.int p2), (.int p3), (.int p4), (.int p5), (.int p6)] maxLocals)) t := fun t kt => by
          refine pre49 _ ?_
          show Steps p.tables e below (T48.setTop (mkF m 99 #[.val (.int p1), .val (.int p2), .val (.int p3), .val (.int p4), .val (.int p5), .val (.int p6), .val (.ref b7), .val (.int (own_k p4)), .val (.int (p1.toInt8.toInt32)), .val (.int (p2.toInt8.toInt32)), .val (.int (p3.toInt8.toInt32)), .val (.int (p5 &&& (65535 : Int32))), .val (.int (p6 &&& (65535 : Int32))), .unset] [(.int (own_k p4)), (.int (((0 : Int32) + (1 : Int32)) + (1 : Int32)))])) _
          refine XS.icmpNo X48.here hx rfl (hb hby at_99) rfl (teq hc50).2 ?_
          show Steps p.tables e below (T48.setTop (mkF m 102 _ [])) _
          refine XS.aload X48.here hx rfl (hb hby at_102) rfl rfl ?_
          show Steps p.tables e below (T48.setTop (mkF m 104 _ [(.ref b7)])) _
          refine XS.iconst X48.here hx rfl (hb hby at_104) ?_
          show Steps p.tables e below (T48.setTop (mkF m 105 _ [(.int (0 : Int32)), (.ref b7)])) _
          refine st51.trans ?_
          show Steps p.tables e below (T51.setTop (mkF m 108 _ [(.int (f6 (0 : Int32) (([(0 : Int32), (0 : Int32), (0 : Int32), (0 : Int32), (0 : Int32), (0 : Int32), (0 : Int32), (0 : Int32)].set (((0 : Int32) &&& (65535 : Int32))).toNatClampNeg (nar .byte (p1.toInt8.toInt32))).set ((((0 : Int32) + (1 : Int32)) &&& (65535 : Int32))).toNatClampNeg (nar .byte (p2.toInt8.toInt32)))))])) _
          refine XS.iload X51.here hx rfl (hb hby at_108) rfl ?_
          exact kt
        by_cases hc53 : (f6 (0 : Int32) (([(0 : Int32), (0 : Int32), (0 : Int32), (0 : Int32), (0 : Int32), (0 : Int32), (0 : Int32), (0 : Int32)].set (((0 : Int32) &&& (65535 : Int32))).toNatClampNeg (nar .byte (p1.toInt8.toInt32))).set ((((0 : Int32) + (1 : Int32)) &&& (65535 : Int32))).toNatClampNeg (nar .byte (p2.toInt8.toInt32)))) = (p1.toInt8.toInt32)
        · skip
          obtain ⟨cq54, kq54, q54a, q54b, q54c⟩ := isOf hZ e51 qp40_0
          obtain ⟨_, _, ⟨T54, L54, k54, n54⟩, -, X54, ⟨Lc54, hQ54, l54, y54, z54⟩, st54⟩ := X51.virtualBack hx (y := (⟨"com/example/loadstone/loadstone/ByteChunks", "at", "(I)B"⟩ : MethodName)) (z := (⟨"com/example/loadstone/loadstone/ByteChunks", "at", "(I)B"⟩ : MethodName)) hown (mvT hZ (hw _ (List.mem_of_getElem? (i := 38) rfl))) (mvT hZ (hw _ (List.mem_of_getElem? (i := 39) rfl))) (notFace_of_selects (args := #[]) (mvT hZ (hw _ (List.mem_of_getElem? (i := 41) rfl)))) (mvT hZ (hw _ (List.mem_of_getElem? (i := 41) rfl))) (mvT hZ (hw _ (List.mem_of_getElem? (i := 40) rfl))) (by decide) (backOf (W := 0) (rm6 l Z a0 hw [] b7 (1 : Int32) b8_b3 k8_b3 b10_b9 k10_b9 (([(0 : Int32), (0 : Int32), (0 : Int32), (0 : Int32), (0 : Int32), (0 : Int32), (0 : Int32), (0 : Int32)].set (((0 : Int32) &&& (65535 : Int32))).toNatClampNeg (nar .byte (p1.toInt8.toInt32))).set ((((0 : Int32) + (1 : Int32)) &&& (65535 : Int32))).toNatClampNeg (nar .byte (p2.toInt8.toInt32))) (65536 : Int32) T40.heap n0 Zs46 (by decide) qp40_1 Av45 qp10_5 qp40_4 ⟨by decide, by decide⟩) hZ (hw _ (List.mem_of_getElem? (i := 42) rfl)) (hw _ (List.mem_of_getElem? (i := 2) rfl)) (by decide) (by decide)) q54a q54c (g := (mkF m 134 #[.val (.int p1), .val (.int p2), .val (.int p3), .val (.int p4), .val (.int p5), .val (.int p6), .val (.ref b7), .val (.int (own_k p4)), .val (.int (p1.toInt8.toInt32)), .val (.int (p2.toInt8.toInt32)), .val (.int (p3.toInt8.toInt32)), .val (.int (p5 &&& (65535 : Int32))), .val (.int (p6 &&& (65535 : Int32))), .val (.int (1 : Int32))] [(.int (1 : Int32)), (.ref b7)])) rfl (by rw [hml]; rfl) (Steps.refl _) (argsL := [(.int (1 : Int32))]) (rest := []) (lenOf pd_0_4 rfl) rfl (by show 2 * 0 + _ ≤ _; exact Nat.le_of_eq rfl) (hb hby at_134) (fun _ _ => ⟨rfl, e51, (by decide : 3 + 0 ≤ _), (by decide : 65540 + 0 ≤ _)⟩)
          dsimp only [Pt.U, Pt.locs, Pt.cells, Pt.slots] at X54 l54 y54 z54 st54 hQ54
          subst l54 y54 z54
          obtain ⟨rfl, N54q, e54⟩ := hQ54
          have N54 := Fr.app N51 N54q
          have pre55 : ∀ t, Steps p.tables e below (T54.setTop (mkF m 139 #[.val (.int p1), .val (.int p2), .val (.int p3), .val (.int p4), .val (.int p5), .val (.int p6), .val (.ref b7), .val (.int (own_k p4)), .val (.int (p1.toInt8.toInt32)), .val (.int (p2.toInt8.toInt32)), .val (.int (p3.toInt8.toInt32)), .val (.int (p5 &&& (65535 : Int32))), .val (.int (p6 &&& (65535 : Int32))), .val (.int (1 : Int32))] [(.int (p2.toInt8.toInt32)), (.int (f6 (1 : Int32) (([(0 : Int32), (0 : Int32), (0 : Int32), (0 : Int32), (0 : Int32), (0 : Int32), (0 : Int32), (0 : Int32)].set (((0 : Int32) &&& (65535 : Int32))).toNatClampNeg (nar .byte (p1.toInt8.toInt32))).set ((((0 : Int32) + (1 : Int32)) &&& (65535 : Int32))).toNatClampNeg (nar .byte (p2.toInt8.toInt32)))))])) t → Steps p.tables e below (s₁.setTop (entryFrame m #[(.int p1), (.int p2), (.int p3), (.int p4), (.int p5), (.int p6)] maxLocals)) t := fun t kt => by
            refine pre52 _ ?_
            show Steps p.tables e below (T51.setTop (mkF m 110 #[.val (.int p1), .val (.int p2), .val (.int p3), .val (.int p4), .val (.int p5), .val (.int p6), .val (.ref b7), .val (.int (own_k p4)), .val (.int (p1.toInt8.toInt32)), .val (.int (p2.toInt8.toInt32)), .val (.int (p3.toInt8.toInt32)), .val (.int (p5 &&& (65535 : Int32))), .val (.int (p6 &&& (65535 : Int32))), .unset] [(.int (p1.toInt8.toInt32)), (.int (f6 (0 : Int32) (([(0 : Int32), (0 : Int32), (0 : Int32), (0 : Int32), (0 : Int32), (0 : Int32), (0 : Int32), (0 : Int32)].set (((0 : Int32) &&& (65535 : Int32))).toNatClampNeg (nar .byte (p1.toInt8.toInt32))).set ((((0 : Int32) + (1 : Int32)) &&& (65535 : Int32))).toNatClampNeg (nar .byte (p2.toInt8.toInt32)))))])) _
            refine XS.icmpNo X51.here hx rfl (hb hby at_110) rfl (teq hc53).2 ?_
            show Steps p.tables e below (T51.setTop (mkF m 113 _ [])) _
            refine XS.iconst X51.here hx rfl (hb hby at_113) ?_
            show Steps p.tables e below (T51.setTop (mkF m 114 _ [(.int (1 : Int32))])) _
            refine XS.goto X51.here hx rfl (pc0 := 114) (pc' := 118) rfl (hb hby at_114) (by decide) (by decide) ?_
            show Steps p.tables e below (T51.setTop (mkF m 118 _ [(.int (1 : Int32))])) _
            refine XS.istore X51.here hx rfl (hb hby at_118) rfl (l' := #[.val (.int p1), .val (.int p2), .val (.int p3), .val (.int p4), .val (.int p5), .val (.int p6), .val (.ref b7), .val (.int (own_k p4)), .val (.int (p1.toInt8.toInt32)), .val (.int (p2.toInt8.toInt32)), .val (.int (p3.toInt8.toInt32)), .val (.int (p5 &&& (65535 : Int32))), .val (.int (p6 &&& (65535 : Int32))), .val (.int (1 : Int32))]) rfl ?_
            show Steps p.tables e below (T51.setTop (mkF m 120 _ [])) _
            refine XS.iload X51.here hx rfl (hb hby at_120) rfl ?_
            show Steps p.tables e below (T51.setTop (mkF m 122 _ [(.int (own_k p4))])) _
            refine XS.iconst X51.here hx rfl (hb hby at_122) ?_
            show Steps p.tables e below (T51.setTop (mkF m 123 _ [(.int (2 : Int32)), (.int (own_k p4))])) _
            refine XS.icmpNo X51.here hx rfl (hb hby at_123) rfl (flt hc13).1 ?_
            show Steps p.tables e below (T51.setTop (mkF m 126 _ [])) _
            refine XS.iload X51.here hx rfl (hb hby at_126) rfl ?_
            show Steps p.tables e below (T51.setTop (mkF m 128 _ [(.int (1 : Int32))])) _
            refine XS.ifNo X51.here hx rfl (hb hby at_128) rfl ((if0 _ _).trans (feq (by decide)).1) ?_
            show Steps p.tables e below (T51.setTop (mkF m 131 _ [])) _
            refine XS.aload X51.here hx rfl (hb hby at_131) rfl rfl ?_
            show Steps p.tables e below (T51.setTop (mkF m 133 _ [(.ref b7)])) _
            refine XS.iconst X51.here hx rfl (hb hby at_133) ?_
            show Steps p.tables e below (T51.setTop (mkF m 134 _ [(.int (1 : Int32)), (.ref b7)])) _
            refine st54.trans ?_
            show Steps p.tables e below (T54.setTop (mkF m 137 _ [(.int (f6 (1 : Int32) (([(0 : Int32), (0 : Int32), (0 : Int32), (0 : Int32), (0 : Int32), (0 : Int32), (0 : Int32), (0 : Int32)].set (((0 : Int32) &&& (65535 : Int32))).toNatClampNeg (nar .byte (p1.toInt8.toInt32))).set ((((0 : Int32) + (1 : Int32)) &&& (65535 : Int32))).toNatClampNeg (nar .byte (p2.toInt8.toInt32)))))])) _
            refine XS.iload X54.here hx rfl (hb hby at_137) rfl ?_
            exact kt
          by_cases hc56 : (f6 (1 : Int32) (([(0 : Int32), (0 : Int32), (0 : Int32), (0 : Int32), (0 : Int32), (0 : Int32), (0 : Int32), (0 : Int32)].set (((0 : Int32) &&& (65535 : Int32))).toNatClampNeg (nar .byte (p1.toInt8.toInt32))).set ((((0 : Int32) + (1 : Int32)) &&& (65535 : Int32))).toNatClampNeg (nar .byte (p2.toInt8.toInt32)))) = (p2.toInt8.toInt32)
          · skip
            obtain ⟨fs, hr, hrun, hended, hW, hsame⟩ := X54.leave (v := some (.int (1 : Int32))) (fun h => by rw [Bd.returns] at h; cases h) (by first | exact BodyLoose.notSynchronized Bd | exact Body.notSynchronized Bd)
            refine ⟨_, _, pre55 _ ?_, hrun, hended, _, _, rfl, ?_, ⟨_, rfl⟩, hW, hsame.mono (by decide) (by decide)⟩
            · show Steps p.tables e below (T54.setTop (mkF m 139 #[.val (.int p1), .val (.int p2), .val (.int p3), .val (.int p4), .val (.int p5), .val (.int p6), .val (.ref b7), .val (.int (own_k p4)), .val (.int (p1.toInt8.toInt32)), .val (.int (p2.toInt8.toInt32)), .val (.int (p3.toInt8.toInt32)), .val (.int (p5 &&& (65535 : Int32))), .val (.int (p6 &&& (65535 : Int32))), .val (.int (1 : Int32))] [(.int (p2.toInt8.toInt32)), (.int (f6 (1 : Int32) (([(0 : Int32), (0 : Int32), (0 : Int32), (0 : Int32), (0 : Int32), (0 : Int32), (0 : Int32), (0 : Int32)].set (((0 : Int32) &&& (65535 : Int32))).toNatClampNeg (nar .byte (p1.toInt8.toInt32))).set ((((0 : Int32) + (1 : Int32)) &&& (65535 : Int32))).toNatClampNeg (nar .byte (p2.toInt8.toInt32)))))])) _
              refine XS.icmpNo X54.here hx rfl (hb hby at_139) rfl (teq hc56).2 ?_
              show Steps p.tables e below (T54.setTop (mkF m 142 _ [])) _
              refine XS.iconst X54.here hx rfl (hb hby at_142) ?_
              show Steps p.tables e below (T54.setTop (mkF m 143 _ [(.int (1 : Int32))])) _
              refine XS.goto X54.here hx rfl (pc0 := 143) (pc' := 147) rfl (hb hby at_143) (by decide) (by decide) ?_
              show Steps p.tables e below (T54.setTop (mkF m 147 _ [(.int (1 : Int32))])) _
              refine XS.istore X54.here hx rfl (hb hby at_147) rfl (l' := #[.val (.int p1), .val (.int p2), .val (.int p3), .val (.int p4), .val (.int p5), .val (.int p6), .val (.ref b7), .val (.int (own_k p4)), .val (.int (p1.toInt8.toInt32)), .val (.int (p2.toInt8.toInt32)), .val (.int (p3.toInt8.toInt32)), .val (.int (p5 &&& (65535 : Int32))), .val (.int (p6 &&& (65535 : Int32))), .val (.int (1 : Int32))]) rfl ?_
              show Steps p.tables e below (T54.setTop (mkF m 149 _ [])) _
              refine XS.iload X54.here hx rfl (hb hby at_149) rfl ?_
              show Steps p.tables e below (T54.setTop (mkF m 151 _ [(.int (own_k p4))])) _
              refine XS.iconst X54.here hx rfl (hb hby at_151) ?_
              show Steps p.tables e below (T54.setTop (mkF m 152 _ [(.int (3 : Int32)), (.int (own_k p4))])) _
              refine XS.icmpYes X54.here hx rfl (pc0 := 152) (pc' := 178) rfl (hb hby at_152) rfl (tlt hc43).1 (by decide) (by decide) ?_
              show Steps p.tables e below (T54.setTop (mkF m 178 _ [])) _
              refine XS.iload X54.here hx rfl (hb hby at_178) rfl ?_
              show Steps p.tables e below (T54.setTop (mkF m 180 #[.val (.int p1), .val (.int p2), .val (.int p3), .val (.int p4), .val (.int p5), .val (.int p6), .val (.ref b7), .val (.int (own_k p4)), .val (.int (p1.toInt8.toInt32)), .val (.int (p2.toInt8.toInt32)), .val (.int (p3.toInt8.toInt32)), .val (.int (p5 &&& (65535 : Int32))), .val (.int (p6 &&& (65535 : Int32))), .val (.int (1 : Int32))] [(.int (1 : Int32))])) _
              exact retN X54 hx (t := .boolean) Bd.returns (by simp) (hb hby at_180) hr
            · show Q0 Z p1 p2 p3 p4 p5 p6 h0 n0 _ T54.heap _
              rw [e54]
              exact ⟨congrArg (fun z => some (Value.int z)) (by rw [f0, if_neg hc13, if_pos hc43, if_pos hc50, if_pos hc53, if_pos hc56] : f0 p1 p2 p3 p4 p5 p6 = (1 : Int32)).symm, N54⟩
          · skip
            obtain ⟨fs, hr, hrun, hended, hW, hsame⟩ := X54.leave (v := some (.int (0 : Int32))) (fun h => by rw [Bd.returns] at h; cases h) (by first | exact BodyLoose.notSynchronized Bd | exact Body.notSynchronized Bd)
            refine ⟨_, _, pre55 _ ?_, hrun, hended, _, _, rfl, ?_, ⟨_, rfl⟩, hW, hsame.mono (by decide) (by decide)⟩
            · show Steps p.tables e below (T54.setTop (mkF m 139 #[.val (.int p1), .val (.int p2), .val (.int p3), .val (.int p4), .val (.int p5), .val (.int p6), .val (.ref b7), .val (.int (own_k p4)), .val (.int (p1.toInt8.toInt32)), .val (.int (p2.toInt8.toInt32)), .val (.int (p3.toInt8.toInt32)), .val (.int (p5 &&& (65535 : Int32))), .val (.int (p6 &&& (65535 : Int32))), .val (.int (1 : Int32))] [(.int (p2.toInt8.toInt32)), (.int (f6 (1 : Int32) (([(0 : Int32), (0 : Int32), (0 : Int32), (0 : Int32), (0 : Int32), (0 : Int32), (0 : Int32), (0 : Int32)].set (((0 : Int32) &&& (65535 : Int32))).toNatClampNeg (nar .byte (p1.toInt8.toInt32))).set ((((0 : Int32) + (1 : Int32)) &&& (65535 : Int32))).toNatClampNeg (nar .byte (p2.toInt8.toInt32)))))])) _
              refine XS.icmpYes X54.here hx rfl (pc0 := 139) (pc' := 146) rfl (hb hby at_139) rfl (feq hc56).2 (by decide) (by decide) ?_
              show Steps p.tables e below (T54.setTop (mkF m 146 _ [])) _
              refine XS.iconst X54.here hx rfl (hb hby at_146) ?_
              show Steps p.tables e below (T54.setTop (mkF m 147 _ [(.int (0 : Int32))])) _
              refine XS.istore X54.here hx rfl (hb hby at_147) rfl (l' := #[.val (.int p1), .val (.int p2), .val (.int p3), .val (.int p4), .val (.int p5), .val (.int p6), .val (.ref b7), .val (.int (own_k p4)), .val (.int (p1.toInt8.toInt32)), .val (.int (p2.toInt8.toInt32)), .val (.int (p3.toInt8.toInt32)), .val (.int (p5 &&& (65535 : Int32))), .val (.int (p6 &&& (65535 : Int32))), .val (.int (0 : Int32))]) rfl ?_
              show Steps p.tables e below (T54.setTop (mkF m 149 _ [])) _
              refine XS.iload X54.here hx rfl (hb hby at_149) rfl ?_
              show Steps p.tables e below (T54.setTop (mkF m 151 _ [(.int (own_k p4))])) _
              refine XS.iconst X54.here hx rfl (hb hby at_151) ?_
              show Steps p.tables e below (T54.setTop (mkF m 152 _ [(.int (3 : Int32)), (.int (own_k p4))])) _
              refine XS.icmpYes X54.here hx rfl (pc0 := 152) (pc' := 178) rfl (hb hby at_152) rfl (tlt hc43).1 (by decide) (by decide) ?_
              show Steps p.tables e below (T54.setTop (mkF m 178 _ [])) _
              refine XS.iload X54.here hx rfl (hb hby at_178) rfl ?_
              show Steps p.tables e below (T54.setTop (mkF m 180 #[.val (.int p1), .val (.int p2), .val (.int p3), .val (.int p4), .val (.int p5), .val (.int p6), .val (.ref b7), .val (.int (own_k p4)), .val (.int (p1.toInt8.toInt32)), .val (.int (p2.toInt8.toInt32)), .val (.int (p3.toInt8.toInt32)), .val (.int (p5 &&& (65535 : Int32))), .val (.int (p6 &&& (65535 : Int32))), .val (.int (0 : Int32))] [(.int (0 : Int32))])) _
              exact retN X54 hx (t := .boolean) Bd.returns (by simp) (hb hby at_180) hr
            · show Q0 Z p1 p2 p3 p4 p5 p6 h0 n0 _ T54.heap _
              rw [e54]
              exact ⟨congrArg (fun z => some (Value.int z)) (by rw [f0, if_neg hc13, if_pos hc43, if_pos hc50, if_pos hc53, if_neg hc56] : f0 p1 p2 p3 p4 p5 p6 = (0 : Int32)).symm, N54⟩
        · skip
          obtain ⟨fs, hr, hrun, hended, hW, hsame⟩ := X51.leave (v := some (.int (0 : Int32))) (fun h => by rw [Bd.returns] at h; cases h) (by first | exact BodyLoose.notSynchronized Bd | exact Body.notSynchronized Bd)
          refine ⟨_, _, pre52 _ ?_, hrun, hended, _, _, rfl, ?_, ⟨_, rfl⟩, hW, hsame.mono (by decide) (by decide)⟩
          · show Steps p.tables e below (T51.setTop (mkF m 110 #[.val (.int p1), .val (.int p2), .val (.int p3), .val (.int p4), .val (.int p5), .val (.int p6), .val (.ref b7), .val (.int (own_k p4)), .val (.int (p1.toInt8.toInt32)), .val (.int (p2.toInt8.toInt32)), .val (.int (p3.toInt8.toInt32)), .val (.int (p5 &&& (65535 : Int32))), .val (.int (p6 &&& (65535 : Int32))), .unset] [(.int (p1.toInt8.toInt32)), (.int (f6 (0 : Int32) (([(0 : Int32), (0 : Int32), (0 : Int32), (0 : Int32), (0 : Int32), (0 : Int32), (0 : Int32), (0 : Int32)].set (((0 : Int32) &&& (65535 : Int32))).toNatClampNeg (nar .byte (p1.toInt8.toInt32))).set ((((0 : Int32) + (1 : Int32)) &&& (65535 : Int32))).toNatClampNeg (nar .byte (p2.toInt8.toInt32)))))])) _
            refine XS.icmpYes X51.here hx rfl (pc0 := 110) (pc' := 117) rfl (hb hby at_110) rfl (feq hc53).2 (by decide) (by decide) ?_
            show Steps p.tables e below (T51.setTop (mkF m 117 _ [])) _
            refine XS.iconst X51.here hx rfl (hb hby at_117) ?_
            show Steps p.tables e below (T51.setTop (mkF m 118 _ [(.int (0 : Int32))])) _
            refine XS.istore X51.here hx rfl (hb hby at_118) rfl (l' := #[.val (.int p1), .val (.int p2), .val (.int p3), .val (.int p4), .val (.int p5), .val (.int p6), .val (.ref b7), .val (.int (own_k p4)), .val (.int (p1.toInt8.toInt32)), .val (.int (p2.toInt8.toInt32)), .val (.int (p3.toInt8.toInt32)), .val (.int (p5 &&& (65535 : Int32))), .val (.int (p6 &&& (65535 : Int32))), .val (.int (0 : Int32))]) rfl ?_
            show Steps p.tables e below (T51.setTop (mkF m 120 _ [])) _
            refine XS.iload X51.here hx rfl (hb hby at_120) rfl ?_
            show Steps p.tables e below (T51.setTop (mkF m 122 _ [(.int (own_k p4))])) _
            refine XS.iconst X51.here hx rfl (hb hby at_122) ?_
            show Steps p.tables e below (T51.setTop (mkF m 123 _ [(.int (2 : Int32)), (.int (own_k p4))])) _
            refine XS.icmpNo X51.here hx rfl (hb hby at_123) rfl (flt hc13).1 ?_
            show Steps p.tables e below (T51.setTop (mkF m 126 _ [])) _
            refine XS.iload X51.here hx rfl (hb hby at_126) rfl ?_
            show Steps p.tables e below (T51.setTop (mkF m 128 _ [(.int (0 : Int32))])) _
            refine XS.ifYes X51.here hx rfl (pc0 := 128) (pc' := 146) rfl (hb hby at_128) rfl ((if0 _ _).trans (teq (by decide)).1) (by decide) (by decide) ?_
            show Steps p.tables e below (T51.setTop (mkF m 146 _ [])) _
            refine XS.iconst X51.here hx rfl (hb hby at_146) ?_
            show Steps p.tables e below (T51.setTop (mkF m 147 _ [(.int (0 : Int32))])) _
            refine XS.istore X51.here hx rfl (hb hby at_147) rfl (l' := #[.val (.int p1), .val (.int p2), .val (.int p3), .val (.int p4), .val (.int p5), .val (.int p6), .val (.ref b7), .val (.int (own_k p4)), .val (.int (p1.toInt8.toInt32)), .val (.int (p2.toInt8.toInt32)), .val (.int (p3.toInt8.toInt32)), .val (.int (p5 &&& (65535 : Int32))), .val (.int (p6 &&& (65535 : Int32))), .val (.int (0 : Int32))]) rfl ?_
            show Steps p.tables e below (T51.setTop (mkF m 149 _ [])) _
            refine XS.iload X51.here hx rfl (hb hby at_149) rfl ?_
            show Steps p.tables e below (T51.setTop (mkF m 151 _ [(.int (own_k p4))])) _
            refine XS.iconst X51.here hx rfl (hb hby at_151) ?_
            show Steps p.tables e below (T51.setTop (mkF m 152 _ [(.int (3 : Int32)), (.int (own_k p4))])) _
            refine XS.icmpYes X51.here hx rfl (pc0 := 152) (pc' := 178) rfl (hb hby at_152) rfl (tlt hc43).1 (by decide) (by decide) ?_
            show Steps p.tables e below (T51.setTop (mkF m 178 _ [])) _
            refine XS.iload X51.here hx rfl (hb hby at_178) rfl ?_
            show Steps p.tables e below (T51.setTop (mkF m 180 #[.val (.int p1), .val (.int p2), .val (.int p3), .val (.int p4), .val (.int p5), .val (.int p6), .val (.ref b7), .val (.int (own_k p4)), .val (.int (p1.toInt8.toInt32)), .val (.int (p2.toInt8.toInt32)), .val (.int (p3.toInt8.toInt32)), .val (.int (p5 &&& (65535 : Int32))), .val (.int (p6 &&& (65535 : Int32))), .val (.int (0 : Int32))] [(.int (0 : Int32))])) _
            exact retN X51 hx (t := .boolean) Bd.returns (by simp) (hb hby at_180) hr
          · show Q0 Z p1 p2 p3 p4 p5 p6 h0 n0 _ T51.heap _
            rw [e51]
            exact ⟨congrArg (fun z => some (Value.int z)) (by rw [f0, if_neg hc13, if_pos hc43, if_pos hc50, if_neg hc53] : f0 p1 p2 p3 p4 p5 p6 = (0 : Int32)).symm, N51⟩
      · skip
        obtain ⟨fs, hr, hrun, hended, hW, hsame⟩ := X48.leave (v := some (.int (0 : Int32))) (fun h => by rw [Bd.returns] at h; cases h) (by first | exact BodyLoose.notSynchronized Bd | exact Body.notSynchronized Bd)
        refine ⟨_, _, pre49 _ ?_, hrun, hended, _, _, rfl, ?_, ⟨_, rfl⟩, hW, hsame.mono (by decide) (by decide)⟩
        · show Steps p.tables e below (T48.setTop (mkF m 99 #[.val (.int p1), .val (.int p2), .val (.int p3), .val (.int p4), .val (.int p5), .val (.int p6), .val (.ref b7), .val (.int (own_k p4)), .val (.int (p1.toInt8.toInt32)), .val (.int (p2.toInt8.toInt32)), .val (.int (p3.toInt8.toInt32)), .val (.int (p5 &&& (65535 : Int32))), .val (.int (p6 &&& (65535 : Int32))), .unset] [(.int (own_k p4)), (.int (((0 : Int32) + (1 : Int32)) + (1 : Int32)))])) _
          refine XS.icmpYes X48.here hx rfl (pc0 := 99) (pc' := 117) rfl (hb hby at_99) rfl (feq hc50).2 (by decide) (by decide) ?_
          show Steps p.tables e below (T48.setTop (mkF m 117 _ [])) _
          refine XS.iconst X48.here hx rfl (hb hby at_117) ?_
          show Steps p.tables e below (T48.setTop (mkF m 118 _ [(.int (0 : Int32))])) _
          refine XS.istore X48.here hx rfl (hb hby at_118) rfl (l' := #[.val (.int p1), .val (.int p2), .val (.int p3), .val (.int p4), .val (.int p5), .val (.int p6), .val (.ref b7), .val (.int (own_k p4)), .val (.int (p1.toInt8.toInt32)), .val (.int (p2.toInt8.toInt32)), .val (.int (p3.toInt8.toInt32)), .val (.int (p5 &&& (65535 : Int32))), .val (.int (p6 &&& (65535 : Int32))), .val (.int (0 : Int32))]) rfl ?_
          show Steps p.tables e below (T48.setTop (mkF m 120 _ [])) _
          refine XS.iload X48.here hx rfl (hb hby at_120) rfl ?_
          show Steps p.tables e below (T48.setTop (mkF m 122 _ [(.int (own_k p4))])) _
          refine XS.iconst X48.here hx rfl (hb hby at_122) ?_
          show Steps p.tables e below (T48.setTop (mkF m 123 _ [(.int (2 : Int32)), (.int (own_k p4))])) _
          refine XS.icmpNo X48.here hx rfl (hb hby at_123) rfl (flt hc13).1 ?_
          show Steps p.tables e below (T48.setTop (mkF m 126 _ [])) _
          refine XS.iload X48.here hx rfl (hb hby at_126) rfl ?_
          show Steps p.tables e below (T48.setTop (mkF m 128 _ [(.int (0 : Int32))])) _
          refine XS.ifYes X48.here hx rfl (pc0 := 128) (pc' := 146) rfl (hb hby at_128) rfl ((if0 _ _).trans (teq (by decide)).1) (by decide) (by decide) ?_
          show Steps p.tables e below (T48.setTop (mkF m 146 _ [])) _
          refine XS.iconst X48.here hx rfl (hb hby at_146) ?_
          show Steps p.tables e below (T48.setTop (mkF m 147 _ [(.int (0 : Int32))])) _
          refine XS.istore X48.here hx rfl (hb hby at_147) rfl (l' := #[.val (.int p1), .val (.int p2), .val (.int p3), .val (.int p4), .val (.int p5), .val (.int p6), .val (.ref b7), .val (.int (own_k p4)), .val (.int (p1.toInt8.toInt32)), .val (.int (p2.toInt8.toInt32)), .val (.int (p3.toInt8.toInt32)), .val (.int (p5 &&& (65535 : Int32))), .val (.int (p6 &&& (65535 : Int32))), .val (.int (0 : Int32))]) rfl ?_
          show Steps p.tables e below (T48.setTop (mkF m 149 _ [])) _
          refine XS.iload X48.here hx rfl (hb hby at_149) rfl ?_
          show Steps p.tables e below (T48.setTop (mkF m 151 _ [(.int (own_k p4))])) _
          refine XS.iconst X48.here hx rfl (hb hby at_151) ?_
          show Steps p.tables e below (T48.setTop (mkF m 152 _ [(.int (3 : Int32)), (.int (own_k p4))])) _
          refine XS.icmpYes X48.here hx rfl (pc0 := 152) (pc' := 178) rfl (hb hby at_152) rfl (tlt hc43).1 (by decide) (by decide) ?_
          show Steps p.tables e below (T48.setTop (mkF m 178 _ [])) _
          refine XS.iload X48.here hx rfl (hb hby at_178) rfl ?_
          show Steps p.tables e below (T48.setTop (mkF m 180 #[.val (.int p1), .val (.int p2), .val (.int p3), .val (.int p4), .val (.int p5), .val (.int p6), .val (.ref b7), .val (.int (own_k p4)), .val (.int (p1.toInt8.toInt32)), .val (.int (p2.toInt8.toInt32)), .val (.int (p3.toInt8.toInt32)), .val (.int (p5 &&& (65535 : Int32))), .val (.int (p6 &&& (65535 : Int32))), .val (.int (0 : Int32))] [(.int (0 : Int32))])) _
          exact retN X48 hx (t := .boolean) Bd.returns (by simp) (hb hby at_180) hr
        · show Q0 Z p1 p2 p3 p4 p5 p6 h0 n0 _ T48.heap _
          rw [e48]
          exact ⟨congrArg (fun z => some (Value.int z)) (by rw [f0, if_neg hc13, if_pos hc43, if_neg hc50] : f0 p1 p2 p3 p4 p5 p6 = (0 : Int32)).symm, N48⟩
    · skip
      have Av58 := (qp10_4.keep Kp40 (ninS ne_b8_b3_b10_b9 (ninS (Ne.symm ne_b7_b8_b3) nin0)))
      have Zs59 : n0 ≤ T40.heap.size := (Nat.le_trans Zs41 Kp40.1)
      obtain ⟨cq57, kq57, q57a, q57b, q57c⟩ := isOf hZ rfl qp40_0
      obtain ⟨_, _, ⟨T57, L57, k57, n57⟩, -, X57, ⟨Lc57, hQ57, l57, y57, z57⟩, st57⟩ := X40.virtualBack hx (y := (⟨"com/example/loadstone/loadstone/ByteChunks", "put", "(B)V"⟩ : MethodName)) (z := (⟨"com/example/loadstone/loadstone/ByteChunks", "put", "(B)V"⟩ : MethodName)) hown (mvT hZ (hw _ (List.mem_of_getElem? (i := 14) rfl))) (mvT hZ (hw _ (List.mem_of_getElem? (i := 15) rfl))) (notFace_of_selects (args := #[]) (mvT hZ (hw _ (List.mem_of_getElem? (i := 17) rfl)))) (mvT hZ (hw _ (List.mem_of_getElem? (i := 17) rfl))) (mvT hZ (hw _ (List.mem_of_getElem? (i := 16) rfl))) (by decide) (backOf (W := 0) (rm3 l Z a0 hw [] b7 (p3.toInt8.toInt32) b8_b3 (((0 : Int32) + (1 : Int32)) + (1 : Int32)) (.int (0 : Int32)) k8_b3 b10_b9 k10_b9 (([(0 : Int32), (0 : Int32), (0 : Int32), (0 : Int32), (0 : Int32), (0 : Int32), (0 : Int32), (0 : Int32)].set (((0 : Int32) &&& (65535 : Int32))).toNatClampNeg (nar .byte (p1.toInt8.toInt32))).set ((((0 : Int32) + (1 : Int32)) &&& (65535 : Int32))).toNatClampNeg (nar .byte (p2.toInt8.toInt32))) (65536 : Int32) T40.heap n0 Zs59 (by decide) qp40_0 qp40_1 qp40_2 qp40_3 Av58 qp10_5 qp40_4 ⟨by decide, by decide⟩ ne_b7_b10_b9 ne_b8_b3_b10_b9 (by first | decide | (simp only [List.length_set]; decide)) g_b10_b9 (Ne.symm ne_b7_b8_b3) g_b7) hZ (hw _ (List.mem_of_getElem? (i := 18) rfl)) (hw _ (List.mem_of_getElem? (i := 2) rfl)) (by decide) (by decide)) q57a q57c (g := (mkF m 61 #[.val (.int p1), .val (.int p2), .val (.int p3), .val (.int p4), .val (.int p5), .val (.int p6), .val (.ref b7), .val (.int (own_k p4)), .val (.int (p1.toInt8.toInt32)), .val (.int (p2.toInt8.toInt32)), .val (.int (p3.toInt8.toInt32)), .unset, .unset, .unset] [(.int (p3.toInt8.toInt32)), (.ref b7)])) rfl (by rw [hml]; rfl) (Steps.refl _) (argsL := [(.int (p3.toInt8.toInt32))]) (rest := []) (lenOf pd_0_1 rfl) rfl (by show 2 * 0 + _ ≤ _; exact Nat.le_of_eq rfl) (hb hby at_61) (fun _ _ => ⟨rfl, rfl, (by decide : 3 + 0 ≤ _), (by decide : 65540 + 0 ≤ _)⟩)
      dsimp only [Pt.U, Pt.locs, Pt.cells, Pt.slots] at X57 l57 y57 z57 st57 hQ57
      subst l57 y57 z57
      obtain ⟨rfl, N57q, Kp57, qp57_0, qp57_1, qp57_2, qp57_3, qp57_4⟩ := hQ57
      have N57 := Fr.app N40 N57q
      have Av61 := (Av58.keep Kp57 (ninS ne_b8_b3_b10_b9 (ninS (Ne.symm ne_b7_b8_b3) nin0)))
      have Zs62 : n0 ≤ T57.heap.size := (Nat.le_trans Zs59 Kp57.1)
      obtain ⟨cq60, kq60, q60a, q60b, q60c⟩ := isOf hZ rfl qp57_0
      obtain ⟨_, _, ⟨T60, L60, k60, n60⟩, -, X60, ⟨Lc60, hQ60, l60, y60, z60⟩, st60⟩ := X57.virtualBack hx (y := (⟨"com/example/loadstone/loadstone/ByteChunks", "release", "(I)V"⟩ : MethodName)) (z := (⟨"com/example/loadstone/loadstone/ByteChunks", "release", "(I)V"⟩ : MethodName)) hown (mvT hZ (hw _ (List.mem_of_getElem? (i := 26) rfl))) (mvT hZ (hw _ (List.mem_of_getElem? (i := 27) rfl))) (notFace_of_selects (args := #[]) (mvT hZ (hw _ (List.mem_of_getElem? (i := 29) rfl)))) (mvT hZ (hw _ (List.mem_of_getElem? (i := 29) rfl))) (mvT hZ (hw _ (List.mem_of_getElem? (i := 28) rfl))) (by decide) (backOf (W := 0) (rm4 l Z a0 hw [] b7 (p5 &&& (65535 : Int32)) (0 : Int32) T57.heap n0 Zs62 (own_rel p5) qp57_3) hZ (hw _ (List.mem_of_getElem? (i := 30) rfl)) (hw _ (List.mem_of_getElem? (i := 2) rfl)) (by decide) (by decide)) q60a q60c (g := (mkF m 82 #[.val (.int p1), .val (.int p2), .val (.int p3), .val (.int p4), .val (.int p5), .val (.int p6), .val (.ref b7), .val (.int (own_k p4)), .val (.int (p1.toInt8.toInt32)), .val (.int (p2.toInt8.toInt32)), .val (.int (p3.toInt8.toInt32)), .val (.int (p5 &&& (65535 : Int32))), .val (.int (p6 &&& (65535 : Int32))), .unset] [(.int (p5 &&& (65535 : Int32))), (.ref b7)])) rfl (by rw [hml]; rfl) (Steps.refl _) (argsL := [(.int (p5 &&& (65535 : Int32)))]) (rest := []) (lenOf pd_0_2 rfl) rfl (by show 2 * 0 + _ ≤ _; exact Nat.le_of_eq rfl) (hb hby at_82) (fun _ _ => ⟨rfl, rfl, (by decide : 3 + 0 ≤ _), (by decide : 65540 + 0 ≤ _)⟩)
      dsimp only [Pt.U, Pt.locs, Pt.cells, Pt.slots] at X60 l60 y60 z60 st60 hQ60
      subst l60 y60 z60
      obtain ⟨rfl, N60q, e60⟩ := hQ60
      have N60 := Fr.app N57 N60q
      obtain ⟨cq63, kq63, q63a, q63b, q63c⟩ := isOf hZ e60 qp57_0
      obtain ⟨_, _, ⟨T63, L63, k63, n63⟩, -, X63, ⟨Lc63, hQ63, l63, y63, z63⟩, st63⟩ := X60.virtualBack hx (y := (⟨"com/example/loadstone/loadstone/ByteChunks", "release", "(I)V"⟩ : MethodName)) (z := (⟨"com/example/loadstone/loadstone/ByteChunks", "release", "(I)V"⟩ : MethodName)) hown (mvT hZ (hw _ (List.mem_of_getElem? (i := 26) rfl))) (mvT hZ (hw _ (List.mem_of_getElem? (i := 27) rfl))) (notFace_of_selects (args := #[]) (mvT hZ (hw _ (List.mem_of_getElem? (i := 29) rfl)))) (mvT hZ (hw _ (List.mem_of_getElem? (i := 29) rfl))) (mvT hZ (hw _ (List.mem_of_getElem? (i := 28) rfl))) (by decide) (backOf (W := 0) (rm4 l Z a0 hw [] b7 (p6 &&& (65535 : Int32)) (0 : Int32) T57.heap n0 Zs62 (own_rel p6) qp57_3) hZ (hw _ (List.mem_of_getElem? (i := 30) rfl)) (hw _ (List.mem_of_getElem? (i := 2) rfl)) (by decide) (by decide)) q63a q63c (g := (mkF m 89 #[.val (.int p1), .val (.int p2), .val (.int p3), .val (.int p4), .val (.int p5), .val (.int p6), .val (.ref b7), .val (.int (own_k p4)), .val (.int (p1.toInt8.toInt32)), .val (.int (p2.toInt8.toInt32)), .val (.int (p3.toInt8.toInt32)), .val (.int (p5 &&& (65535 : Int32))), .val (.int (p6 &&& (65535 : Int32))), .unset] [(.int (p6 &&& (65535 : Int32))), (.ref b7)])) rfl (by rw [hml]; rfl) (Steps.refl _) (argsL := [(.int (p6 &&& (65535 : Int32)))]) (rest := []) (lenOf pd_0_2 rfl) rfl (by show 2 * 0 + _ ≤ _; exact Nat.le_of_eq rfl) (hb hby at_89) (fun _ _ => ⟨rfl, e60, (by decide : 3 + 0 ≤ _), (by decide : 65540 + 0 ≤ _)⟩)
      dsimp only [Pt.U, Pt.locs, Pt.cells, Pt.slots] at X63 l63 y63 z63 st63 hQ63
      subst l63 y63 z63
      obtain ⟨rfl, N63q, e63⟩ := hQ63
      have N63 := Fr.app N60 N63q
      obtain ⟨cq64, kq64, q64a, q64b, q64c⟩ := isOf hZ e63 qp57_0
      obtain ⟨_, _, ⟨T64, L64, k64, n64⟩, -, X64, ⟨Lc64, hQ64, l64, y64, z64⟩, st64⟩ := X63.virtualBack hx (y := (⟨"com/example/loadstone/loadstone/ByteChunks", "length", "()I"⟩ : MethodName)) (z := (⟨"com/example/loadstone/loadstone/ByteChunks", "length", "()I"⟩ : MethodName)) hown (mvT hZ (hw _ (List.mem_of_getElem? (i := 33) rfl))) (mvT hZ (hw _ (List.mem_of_getElem? (i := 34) rfl))) (notFace_of_selects (args := #[]) (mvT hZ (hw _ (List.mem_of_getElem? (i := 36) rfl)))) (mvT hZ (hw _ (List.mem_of_getElem? (i := 36) rfl))) (mvT hZ (hw _ (List.mem_of_getElem? (i := 35) rfl))) (by decide) (backOf (W := 0) (rm5 l Z a0 hw [] b7 ((((0 : Int32) + (1 : Int32)) + (1 : Int32)) + (1 : Int32)) T57.heap n0 Zs62 qp57_2) hZ (hw _ (List.mem_of_getElem? (i := 37) rfl)) (hw _ (List.mem_of_getElem? (i := 2) rfl)) (by decide) (by decide)) q64a q64c (g := (mkF m 94 #[.val (.int p1), .val (.int p2), .val (.int p3), .val (.int p4), .val (.int p5), .val (.int p6), .val (.ref b7), .val (.int (own_k p4)), .val (.int (p1.toInt8.toInt32)), .val (.int (p2.toInt8.toInt32)), .val (.int (p3.toInt8.toInt32)), .val (.int (p5 &&& (65535 : Int32))), .val (.int (p6 &&& (65535 : Int32))), .unset] [(.ref b7)])) rfl (by rw [hml]; rfl) (Steps.refl _) (argsL := []) (rest := []) (lenOf pd_0_3 rfl) rfl (by show 2 * 0 + _ ≤ _; exact Nat.le_of_eq rfl) (hb hby at_94) (fun _ _ => ⟨rfl, e63, (by decide : 3 + 0 ≤ _), (by decide : 65540 + 0 ≤ _)⟩)
      dsimp only [Pt.U, Pt.locs, Pt.cells, Pt.slots] at X64 l64 y64 z64 st64 hQ64
      subst l64 y64 z64
      obtain ⟨rfl, N64q, e64⟩ := hQ64
      have N64 := Fr.app N63 N64q
      have pre65 : ∀ t, Steps p.tables e below (T64.setTop (mkF m 99 #[.val (.int p1), .val (.int p2), .val (.int p3), .val (.int p4), .val (.int p5), .val (.int p6), .val (.ref b7), .val (.int (own_k p4)), .val (.int (p1.toInt8.toInt32)), .val (.int (p2.toInt8.toInt32)), .val (.int (p3.toInt8.toInt32)), .val (.int (p5 &&& (65535 : Int32))), .val (.int (p6 &&& (65535 : Int32))), .unset] [(.int (own_k p4)), (.int ((((0 : Int32) + (1 : Int32)) + (1 : Int32)) + (1 : Int32)))])) t → Steps p.tables e below (s₁.setTop (entryFrame m #[(.int p1), (.int p2), (.int p3), (.int p4), (.int p5), (.int p6)] maxLocals)) t := fun t kt => by
        refine pre42 _ ?_
        show Steps p.tables e below (T40.setTop (mkF m 54 #[.val (.int p1), .val (.int p2), .val (.int p3), .val (.int p4), .val (.int p5), .val (.int p6), .val (.ref b7), .val (.int (own_k p4)), .val (.int (p1.toInt8.toInt32)), .val (.int (p2.toInt8.toInt32)), .val (.int (p3.toInt8.toInt32)), .unset, .unset, .unset] [(.int (3 : Int32)), (.int (own_k p4))])) _
        refine XS.icmpNo X40.here hx rfl (hb hby at_54) rfl (flt hc43).1 ?_
        show Steps p.tables e below (T40.setTop (mkF m 57 _ [])) _
        refine XS.aload X40.here hx rfl (hb hby at_57) rfl rfl ?_
        show Steps p.tables e below (T40.setTop (mkF m 59 _ [(.ref b7)])) _
        refine XS.iload X40.here hx rfl (hb hby at_59) rfl ?_
        show Steps p.tables e below (T40.setTop (mkF m 61 _ [(.int (p3.toInt8.toInt32)), (.ref b7)])) _
        refine st57.trans ?_
        show Steps p.tables e below (T57.setTop (mkF m 64 _ [])) _
        refine XS.iload X57.here hx rfl (hb hby at_64) rfl ?_
        show Steps p.tables e below (T57.setTop (mkF m 66 _ [(.int p5)])) _
        refine X57.ldcInt hx hown (mvT hZ (hw _ (List.mem_of_getElem? (i := 25) rfl))) (g := (mkF m 66 #[.val (.int p1), .val (.int p2), .val (.int p3), .val (.int p4), .val (.int p5), .val (.int p6), .val (.ref b7), .val (.int (own_k p4)), .val (.int (p1.toInt8.toInt32)), .val (.int (p2.toInt8.toInt32)), .val (.int (p3.toInt8.toInt32)), .unset, .unset, .unset] [(.int p5)])) rfl (hb hby at_66) _ ?_
        show Steps p.tables e below (T57.setTop (mkF m 68 _ [(.int (65535 : Int32)), (.int p5)])) _
        refine XS.iand X57.here hx rfl (hb hby at_68) rfl ?_
        show Steps p.tables e below (T57.setTop (mkF m 69 _ [(.int (p5 &&& (65535 : Int32)))])) _
        refine XS.istore X57.here hx rfl (hb hby at_69) rfl (l' := #[.val (.int p1), .val (.int p2), .val (.int p3), .val (.int p4), .val (.int p5), .val (.int p6), .val (.ref b7), .val (.int (own_k p4)), .val (.int (p1.toInt8.toInt32)), .val (.int (p2.toInt8.toInt32)), .val (.int (p3.toInt8.toInt32)), .val (.int (p5 &&& (65535 : Int32))), .unset, .unset]) rfl ?_
        show Steps p.tables e below (T57.setTop (mkF m 71 _ [])) _
        refine XS.iload X57.here hx rfl (hb hby at_71) rfl ?_
        show Steps p.tables e below (T57.setTop (mkF m 73 _ [(.int p6)])) _
        refine X57.ldcInt hx hown (mvT hZ (hw _ (List.mem_of_getElem? (i := 25) rfl))) (g := (mkF m 73 #[.val (.int p1), .val (.int p2), .val (.int p3), .val (.int p4), .val (.int p5), .val (.int p6), .val (.ref b7), .val (.int (own_k p4)), .val (.int (p1.toInt8.toInt32)), .val (.int (p2.toInt8.toInt32)), .val (.int (p3.toInt8.toInt32)), .val (.int (p5 &&& (65535 : Int32))), .unset, .unset] [(.int p6)])) rfl (hb hby at_73) _ ?_
        show Steps p.tables e below (T57.setTop (mkF m 75 _ [(.int (65535 : Int32)), (.int p6)])) _
        refine XS.iand X57.here hx rfl (hb hby at_75) rfl ?_
        show Steps p.tables e below (T57.setTop (mkF m 76 _ [(.int (p6 &&& (65535 : Int32)))])) _
        refine XS.istore X57.here hx rfl (hb hby at_76) rfl (l' := #[.val (.int p1), .val (.int p2), .val (.int p3), .val (.int p4), .val (.int p5), .val (.int p6), .val (.ref b7), .val (.int (own_k p4)), .val (.int (p1.toInt8.toInt32)), .val (.int (p2.toInt8.toInt32)), .val (.int (p3.toInt8.toInt32)), .val (.int (p5 &&& (65535 : Int32))), .val (.int (p6 &&& (65535 : Int32))), .unset]) rfl ?_
        show Steps p.tables e below (T57.setTop (mkF m 78 _ [])) _
        refine XS.aload X57.here hx rfl (hb hby at_78) rfl rfl ?_
        show Steps p.tables e below (T57.setTop (mkF m 80 _ [(.ref b7)])) _
        refine XS.iload X57.here hx rfl (hb hby at_80) rfl ?_
        show Steps p.tables e below (T57.setTop (mkF m 82 _ [(.int (p5 &&& (65535 : Int32))), (.ref b7)])) _
        refine st60.trans ?_
        show Steps p.tables e below (T60.setTop (mkF m 85 _ [])) _
        refine XS.aload X60.here hx rfl (hb hby at_85) rfl rfl ?_
        show Steps p.tables e below (T60.setTop (mkF m 87 _ [(.ref b7)])) _
        refine XS.iload X60.here hx rfl (hb hby at_87) rfl ?_
        show Steps p.tables e below (T60.setTop (mkF m 89 _ [(.int (p6 &&& (65535 : Int32))), (.ref b7)])) _
        refine st63.trans ?_
        show Steps p.tables e below (T63.setTop (mkF m 92 _ [])) _
        refine XS.aload X63.here hx rfl (hb hby at_92) rfl rfl ?_
        show Steps p.tables e below (T63.setTop (mkF m 94 _ [(.ref b7)])) _
        refine st64.trans ?_
        show Steps p.tables e below (T64.setTop (mkF m 97 _ [(.int ((((0 : Int32) + (1 : Int32)) + (1 : Int32)) + (1 : Int32)))])) _
        refine XS.iload X64.here hx rfl (hb hby at_97) rfl ?_
        exact kt
      by_cases hc66 : ((((0 : Int32) + (1 : Int32)) + (1 : Int32)) + (1 : Int32)) = (own_k p4)
      · skip
        obtain ⟨cq67, kq67, q67a, q67b, q67c⟩ := isOf hZ e64 qp57_0
        obtain ⟨_, _, ⟨T67, L67, k67, n67⟩, -, X67, ⟨Lc67, hQ67, l67, y67, z67⟩, st67⟩ := X64.virtualBack hx (y := (⟨"com/example/loadstone/loadstone/ByteChunks", "at", "(I)B"⟩ : MethodName)) (z := (⟨"com/example/loadstone/loadstone/ByteChunks", "at", "(I)B"⟩ : MethodName)) hown (mvT hZ (hw _ (List.mem_of_getElem? (i := 38) rfl))) (mvT hZ (hw _ (List.mem_of_getElem? (i := 39) rfl))) (notFace_of_selects (args := #[]) (mvT hZ (hw _ (List.mem_of_getElem? (i := 41) rfl)))) (mvT hZ (hw _ (List.mem_of_getElem? (i := 41) rfl))) (mvT hZ (hw _ (List.mem_of_getElem? (i := 40) rfl))) (by decide) (backOf (W := 0) (rm6 l Z a0 hw [] b7 (0 : Int32) b8_b3 k8_b3 b10_b9 k10_b9 ((([(0 : Int32), (0 : Int32), (0 : Int32), (0 : Int32), (0 : Int32), (0 : Int32), (0 : Int32), (0 : Int32)].set (((0 : Int32) &&& (65535 : Int32))).toNatClampNeg (nar .byte (p1.toInt8.toInt32))).set ((((0 : Int32) + (1 : Int32)) &&& (65535 : Int32))).toNatClampNeg (nar .byte (p2.toInt8.toInt32))).set (((((0 : Int32) + (1 : Int32)) + (1 : Int32)) &&& (65535 : Int32))).toNatClampNeg (nar .byte (p3.toInt8.toInt32))) (65536 : Int32) T57.heap n0 Zs62 (by decide) qp57_1 Av61 qp10_5 qp57_4 ⟨by decide, by decide⟩) hZ (hw _ (List.mem_of_getElem? (i := 42) rfl)) (hw _ (List.mem_of_getElem? (i := 2) rfl)) (by decide) (by decide)) q67a q67c (g := (mkF m 105 #[.val (.int p1), .val (.int p2), .val (.int p3), .val (.int p4), .val (.int p5), .val (.int p6), .val (.ref b7), .val (.int (own_k p4)), .val (.int (p1.toInt8.toInt32)), .val (.int (p2.toInt8.toInt32)), .val (.int (p3.toInt8.toInt32)), .val (.int (p5 &&& (65535 : Int32))), .val (.int (p6 &&& (65535 : Int32))), .unset] [(.int (0 : Int32)), (.ref b7)])) rfl (by rw [hml]; rfl) (Steps.refl _) (argsL := [(.int (0 : Int32))]) (rest := []) (lenOf pd_0_4 rfl) rfl (by show 2 * 0 + _ ≤ _; exact Nat.le_of_eq rfl) (hb hby at_105) (fun _ _ => ⟨rfl, e64, (by decide : 3 + 0 ≤ _), (by decide : 65540 + 0 ≤ _)⟩)
        dsimp only [Pt.U, Pt.locs, Pt.cells, Pt.slots] at X67 l67 y67 z67 st67 hQ67
        subst l67 y67 z67
        obtain ⟨rfl, N67q, e67⟩ := hQ67
        have N67 := Fr.app N64 N67q
        have pre68 : ∀ t, Steps p.tables e below (T67.setTop (mkF m 110 #[.val (.int p1), .val (.int p2), .val (.int p3), .val (.int p4), .val (.int p5), .val (.int p6), .val (.ref b7), .val (.int (own_k p4)), .val (.int (p1.toInt8.toInt32)), .val (.int (p2.toInt8.toInt32)), .val (.int (p3.toInt8.toInt32)), .val (.int (p5 &&& (65535 : Int32))), .val (.int (p6 &&& (65535 : Int32))), .unset] [(.int (p1.toInt8.toInt32)), (.int (f6 (0 : Int32) ((([(0 : Int32), (0 : Int32), (0 : Int32), (0 : Int32), (0 : Int32), (0 : Int32), (0 : Int32), (0 : Int32)].set (((0 : Int32) &&& (65535 : Int32))).toNatClampNeg (nar .byte (p1.toInt8.toInt32))).set ((((0 : Int32) + (1 : Int32)) &&& (65535 : Int32))).toNatClampNeg (nar .byte (p2.toInt8.toInt32))).set (((((0 : Int32) + (1 : Int32)) + (1 : Int32)) &&& (65535 : Int32))).toNatClampNeg (nar .byte (p3.toInt8.toInt32)))))])) t → Steps p.tables e below (s₁.setTop (entryFrame m #[(.int p1), (.int p2), (.int p3), (.int p4), (.int p5), (.int p6)] maxLocals)) t := fun t kt => by
          refine pre65 _ ?_
          show Steps p.tables e below (T64.setTop (mkF m 99 #[.val (.int p1), .val (.int p2), .val (.int p3), .val (.int p4), .val (.int p5), .val (.int p6), .val (.ref b7), .val (.int (own_k p4)), .val (.int (p1.toInt8.toInt32)), .val (.int (p2.toInt8.toInt32)), .val (.int (p3.toInt8.toInt32)), .val (.int (p5 &&& (65535 : Int32))), .val (.int (p6 &&& (65535 : Int32))), .unset] [(.int (own_k p4)), (.int ((((0 : Int32) + (1 : Int32)) + (1 : Int32)) + (1 : Int32)))])) _
          refine XS.icmpNo X64.here hx rfl (hb hby at_99) rfl (teq hc66).2 ?_
          show Steps p.tables e below (T64.setTop (mkF m 102 _ [])) _
          refine XS.aload X64.here hx rfl (hb hby at_102) rfl rfl ?_
          show Steps p.tables e below (T64.setTop (mkF m 104 _ [(.ref b7)])) _
          refine XS.iconst X64.here hx rfl (hb hby at_104) ?_
          show Steps p.tables e below (T64.setTop (mkF m 105 _ [(.int (0 : Int32)), (.ref b7)])) _
          refine st67.trans ?_
          show Steps p.tables e below (T67.setTop (mkF m 108 _ [(.int (f6 (0 : Int32) ((([(0 : Int32), (0 : Int32), (0 : Int32), (0 : Int32), (0 : Int32), (0 : Int32), (0 : Int32), (0 : Int32)].set (((0 : Int32) &&& (65535 : Int32))).toNatClampNeg (nar .byte (p1.toInt8.toInt32))).set ((((0 : Int32) + (1 : Int32)) &&& (65535 : Int32))).toNatClampNeg (nar .byte (p2.toInt8.toInt32))).set (((((0 : Int32) + (1 : Int32)) + (1 : Int32)) &&& (65535 : Int32))).toNatClampNeg (nar .byte (p3.toInt8.toInt32)))))])) _
          refine XS.iload X67.here hx rfl (hb hby at_108) rfl ?_
          exact kt
        by_cases hc69 : (f6 (0 : Int32) ((([(0 : Int32), (0 : Int32), (0 : Int32), (0 : Int32), (0 : Int32), (0 : Int32), (0 : Int32), (0 : Int32)].set (((0 : Int32) &&& (65535 : Int32))).toNatClampNeg (nar .byte (p1.toInt8.toInt32))).set ((((0 : Int32) + (1 : Int32)) &&& (65535 : Int32))).toNatClampNeg (nar .byte (p2.toInt8.toInt32))).set (((((0 : Int32) + (1 : Int32)) + (1 : Int32)) &&& (65535 : Int32))).toNatClampNeg (nar .byte (p3.toInt8.toInt32)))) = (p1.toInt8.toInt32)
        · skip
          obtain ⟨cq70, kq70, q70a, q70b, q70c⟩ := isOf hZ e67 qp57_0
          obtain ⟨_, _, ⟨T70, L70, k70, n70⟩, -, X70, ⟨Lc70, hQ70, l70, y70, z70⟩, st70⟩ := X67.virtualBack hx (y := (⟨"com/example/loadstone/loadstone/ByteChunks", "at", "(I)B"⟩ : MethodName)) (z := (⟨"com/example/loadstone/loadstone/ByteChunks", "at", "(I)B"⟩ : MethodName)) hown (mvT hZ (hw _ (List.mem_of_getElem? (i := 38) rfl))) (mvT hZ (hw _ (List.mem_of_getElem? (i := 39) rfl))) (notFace_of_selects (args := #[]) (mvT hZ (hw _ (List.mem_of_getElem? (i := 41) rfl)))) (mvT hZ (hw _ (List.mem_of_getElem? (i := 41) rfl))) (mvT hZ (hw _ (List.mem_of_getElem? (i := 40) rfl))) (by decide) (backOf (W := 0) (rm6 l Z a0 hw [] b7 (1 : Int32) b8_b3 k8_b3 b10_b9 k10_b9 ((([(0 : Int32), (0 : Int32), (0 : Int32), (0 : Int32), (0 : Int32), (0 : Int32), (0 : Int32), (0 : Int32)].set (((0 : Int32) &&& (65535 : Int32))).toNatClampNeg (nar .byte (p1.toInt8.toInt32))).set ((((0 : Int32) + (1 : Int32)) &&& (65535 : Int32))).toNatClampNeg (nar .byte (p2.toInt8.toInt32))).set (((((0 : Int32) + (1 : Int32)) + (1 : Int32)) &&& (65535 : Int32))).toNatClampNeg (nar .byte (p3.toInt8.toInt32))) (65536 : Int32) T57.heap n0 Zs62 (by decide) qp57_1 Av61 qp10_5 qp57_4 ⟨by decide, by decide⟩) hZ (hw _ (List.mem_of_getElem? (i := 42) rfl)) (hw _ (List.mem_of_getElem? (i := 2) rfl)) (by decide) (by decide)) q70a q70c (g := (mkF m 134 #[.val (.int p1), .val (.int p2), .val (.int p3), .val (.int p4), .val (.int p5), .val (.int p6), .val (.ref b7), .val (.int (own_k p4)), .val (.int (p1.toInt8.toInt32)), .val (.int (p2.toInt8.toInt32)), .val (.int (p3.toInt8.toInt32)), .val (.int (p5 &&& (65535 : Int32))), .val (.int (p6 &&& (65535 : Int32))), .val (.int (1 : Int32))] [(.int (1 : Int32)), (.ref b7)])) rfl (by rw [hml]; rfl) (Steps.refl _) (argsL := [(.int (1 : Int32))]) (rest := []) (lenOf pd_0_4 rfl) rfl (by show 2 * 0 + _ ≤ _; exact Nat.le_of_eq rfl) (hb hby at_134) (fun _ _ => ⟨rfl, e67, (by decide : 3 + 0 ≤ _), (by decide : 65540 + 0 ≤ _)⟩)
          dsimp only [Pt.U, Pt.locs, Pt.cells, Pt.slots] at X70 l70 y70 z70 st70 hQ70
          subst l70 y70 z70
          obtain ⟨rfl, N70q, e70⟩ := hQ70
          have N70 := Fr.app N67 N70q
          have pre71 : ∀ t, Steps p.tables e below (T70.setTop (mkF m 139 #[.val (.int p1), .val (.int p2), .val (.int p3), .val (.int p4), .val (.int p5), .val (.int p6), .val (.ref b7), .val (.int (own_k p4)), .val (.int (p1.toInt8.toInt32)), .val (.int (p2.toInt8.toInt32)), .val (.int (p3.toInt8.toInt32)), .val (.int (p5 &&& (65535 : Int32))), .val (.int (p6 &&& (65535 : Int32))), .val (.int (1 : Int32))] [(.int (p2.toInt8.toInt32)), (.int (f6 (1 : Int32) ((([(0 : Int32), (0 : Int32), (0 : Int32), (0 : Int32), (0 : Int32), (0 : Int32), (0 : Int32), (0 : Int32)].set (((0 : Int32) &&& (65535 : Int32))).toNatClampNeg (nar .byte (p1.toInt8.toInt32))).set ((((0 : Int32) + (1 : Int32)) &&& (65535 : Int32))).toNatClampNeg (nar .byte (p2.toInt8.toInt32))).set (((((0 : Int32) + (1 : Int32)) + (1 : Int32)) &&& (65535 : Int32))).toNatClampNeg (nar .byte (p3.toInt8.toInt32)))))])) t → Steps p.tables e below (s₁.setTop (entryFrame m #[(.int p1), (.int p2), (.int p3), (.int p4), (.int p5), (.int p6)] maxLocals)) t := fun t kt => by
            refine pre68 _ ?_
            show Steps p.tables e below (T67.setTop (mkF m 110 #[.val (.int p1), .val (.int p2), .val (.int p3), .val (.int p4), .val (.int p5), .val (.int p6), .val (.ref b7), .val (.int (own_k p4)), .val (.int (p1.toInt8.toInt32)), .val (.int (p2.toInt8.toInt32)), .val (.int (p3.toInt8.toInt32)), .val (.int (p5 &&& (65535 : Int32))), .val (.int (p6 &&& (65535 : Int32))), .unset] [(.int (p1.toInt8.toInt32)), (.int (f6 (0 : Int32) ((([(0 : Int32), (0 : Int32), (0 : Int32), (0 : Int32), (0 : Int32), (0 : Int32), (0 : Int32), (0 : Int32)].set (((0 : Int32) &&& (65535 : Int32))).toNatClampNeg (nar .byte (p1.toInt8.toInt32))).set ((((0 : Int32) + (1 : Int32)) &&& (65535 : Int32))).toNatClampNeg (nar .byte (p2.toInt8.toInt32))).set (((((0 : Int32) + (1 : Int32)) + (1 : Int32)) &&& (65535 : Int32))).toNatClampNeg (nar .byte (p3.toInt8.toInt32)))))])) _
            refine XS.icmpNo X67.here hx rfl (hb hby at_110) rfl (teq hc69).2 ?_
            show Steps p.tables e below (T67.setTop (mkF m 113 _ [])) _
            refine XS.iconst X67.here hx rfl (hb hby at_113) ?_
            show Steps p.tables e below (T67.setTop (mkF m 114 _ [(.int (1 : Int32))])) _
            refine XS.goto X67.here hx rfl (pc0 := 114) (pc' := 118) rfl (hb hby at_114) (by decide) (by decide) ?_
            show Steps p.tables e below (T67.setTop (mkF m 118 _ [(.int (1 : Int32))])) _
            refine XS.istore X67.here hx rfl (hb hby at_118) rfl (l' := #[.val (.int p1), .val (.int p2), .val (.int p3), .val (.int p4), .val (.int p5), .val (.int p6), .val (.ref b7), .val (.int (own_k p4)), .val (.int (p1.toInt8.toInt32)), .val (.int (p2.toInt8.toInt32)), .val (.int (p3.toInt8.toInt32)), .val (.int (p5 &&& (65535 : Int32))), .val (.int (p6 &&& (65535 : Int32))), .val (.int (1 : Int32))]) rfl ?_
            show Steps p.tables e below (T67.setTop (mkF m 120 _ [])) _
            refine XS.iload X67.here hx rfl (hb hby at_120) rfl ?_
            show Steps p.tables e below (T67.setTop (mkF m 122 _ [(.int (own_k p4))])) _
            refine XS.iconst X67.here hx rfl (hb hby at_122) ?_
            show Steps p.tables e below (T67.setTop (mkF m 123 _ [(.int (2 : Int32)), (.int (own_k p4))])) _
            refine XS.icmpNo X67.here hx rfl (hb hby at_123) rfl (flt hc13).1 ?_
            show Steps p.tables e below (T67.setTop (mkF m 126 _ [])) _
            refine XS.iload X67.here hx rfl (hb hby at_126) rfl ?_
            show Steps p.tables e below (T67.setTop (mkF m 128 _ [(.int (1 : Int32))])) _
            refine XS.ifNo X67.here hx rfl (hb hby at_128) rfl ((if0 _ _).trans (feq (by decide)).1) ?_
            show Steps p.tables e below (T67.setTop (mkF m 131 _ [])) _
            refine XS.aload X67.here hx rfl (hb hby at_131) rfl rfl ?_
            show Steps p.tables e below (T67.setTop (mkF m 133 _ [(.ref b7)])) _
            refine XS.iconst X67.here hx rfl (hb hby at_133) ?_
            show Steps p.tables e below (T67.setTop (mkF m 134 _ [(.int (1 : Int32)), (.ref b7)])) _
            refine st70.trans ?_
            show Steps p.tables e below (T70.setTop (mkF m 137 _ [(.int (f6 (1 : Int32) ((([(0 : Int32), (0 : Int32), (0 : Int32), (0 : Int32), (0 : Int32), (0 : Int32), (0 : Int32), (0 : Int32)].set (((0 : Int32) &&& (65535 : Int32))).toNatClampNeg (nar .byte (p1.toInt8.toInt32))).set ((((0 : Int32) + (1 : Int32)) &&& (65535 : Int32))).toNatClampNeg (nar .byte (p2.toInt8.toInt32))).set (((((0 : Int32) + (1 : Int32)) + (1 : Int32)) &&& (65535 : Int32))).toNatClampNeg (nar .byte (p3.toInt8.toInt32)))))])) _
            refine XS.iload X70.here hx rfl (hb hby at_137) rfl ?_
            exact kt
          by_cases hc72 : (f6 (1 : Int32) ((([(0 : Int32), (0 : Int32), (0 : Int32), (0 : Int32), (0 : Int32), (0 : Int32), (0 : Int32), (0 : Int32)].set (((0 : Int32) &&& (65535 : Int32))).toNatClampNeg (nar .byte (p1.toInt8.toInt32))).set ((((0 : Int32) + (1 : Int32)) &&& (65535 : Int32))).toNatClampNeg (nar .byte (p2.toInt8.toInt32))).set (((((0 : Int32) + (1 : Int32)) + (1 : Int32)) &&& (65535 : Int32))).toNatClampNeg (nar .byte (p3.toInt8.toInt32)))) = (p2.toInt8.toInt32)
          · skip
            obtain ⟨cq73, kq73, q73a, q73b, q73c⟩ := isOf hZ e70 qp57_0
            obtain ⟨_, _, ⟨T73, L73, k73, n73⟩, -, X73, ⟨Lc73, hQ73, l73, y73, z73⟩, st73⟩ := X70.virtualBack hx (y := (⟨"com/example/loadstone/loadstone/ByteChunks", "at", "(I)B"⟩ : MethodName)) (z := (⟨"com/example/loadstone/loadstone/ByteChunks", "at", "(I)B"⟩ : MethodName)) hown (mvT hZ (hw _ (List.mem_of_getElem? (i := 38) rfl))) (mvT hZ (hw _ (List.mem_of_getElem? (i := 39) rfl))) (notFace_of_selects (args := #[]) (mvT hZ (hw _ (List.mem_of_getElem? (i := 41) rfl)))) (mvT hZ (hw _ (List.mem_of_getElem? (i := 41) rfl))) (mvT hZ (hw _ (List.mem_of_getElem? (i := 40) rfl))) (by decide) (backOf (W := 0) (rm6 l Z a0 hw [] b7 (2 : Int32) b8_b3 k8_b3 b10_b9 k10_b9 ((([(0 : Int32), (0 : Int32), (0 : Int32), (0 : Int32), (0 : Int32), (0 : Int32), (0 : Int32), (0 : Int32)].set (((0 : Int32) &&& (65535 : Int32))).toNatClampNeg (nar .byte (p1.toInt8.toInt32))).set ((((0 : Int32) + (1 : Int32)) &&& (65535 : Int32))).toNatClampNeg (nar .byte (p2.toInt8.toInt32))).set (((((0 : Int32) + (1 : Int32)) + (1 : Int32)) &&& (65535 : Int32))).toNatClampNeg (nar .byte (p3.toInt8.toInt32))) (65536 : Int32) T57.heap n0 Zs62 (by decide) qp57_1 Av61 qp10_5 qp57_4 ⟨by decide, by decide⟩) hZ (hw _ (List.mem_of_getElem? (i := 42) rfl)) (hw _ (List.mem_of_getElem? (i := 2) rfl)) (by decide) (by decide)) q73a q73c (g := (mkF m 163 #[.val (.int p1), .val (.int p2), .val (.int p3), .val (.int p4), .val (.int p5), .val (.int p6), .val (.ref b7), .val (.int (own_k p4)), .val (.int (p1.toInt8.toInt32)), .val (.int (p2.toInt8.toInt32)), .val (.int (p3.toInt8.toInt32)), .val (.int (p5 &&& (65535 : Int32))), .val (.int (p6 &&& (65535 : Int32))), .val (.int (1 : Int32))] [(.int (2 : Int32)), (.ref b7)])) rfl (by rw [hml]; rfl) (Steps.refl _) (argsL := [(.int (2 : Int32))]) (rest := []) (lenOf pd_0_4 rfl) rfl (by show 2 * 0 + _ ≤ _; exact Nat.le_of_eq rfl) (hb hby at_163) (fun _ _ => ⟨rfl, e70, (by decide : 3 + 0 ≤ _), (by decide : 65540 + 0 ≤ _)⟩)
            dsimp only [Pt.U, Pt.locs, Pt.cells, Pt.slots] at X73 l73 y73 z73 st73 hQ73
            subst l73 y73 z73
            obtain ⟨rfl, N73q, e73⟩ := hQ73
            have N73 := Fr.app N70 N73q
            have pre74 : ∀ t, Steps p.tables e below (T73.setTop (mkF m 168 #[.val (.int p1), .val (.int p2), .val (.int p3), .val (.int p4), .val (.int p5), .val (.int p6), .val (.ref b7), .val (.int (own_k p4)), .val (.int (p1.toInt8.toInt32)), .val (.int (p2.toInt8.toInt32)), .val (.int (p3.toInt8.toInt32)), .val (.int (p5 &&& (65535 : Int32))), .val (.int (p6 &&& (65535 : Int32))), .val (.int (1 : Int32))] [(.int (p3.toInt8.toInt32)), (.int (f6 (2 : Int32) ((([(0 : Int32), (0 : Int32), (0 : Int32), (0 : Int32), (0 : Int32), (0 : Int32), (0 : Int32), (0 : Int32)].set (((0 : Int32) &&& (65535 : Int32))).toNatClampNeg (nar .byte (p1.toInt8.toInt32))).set ((((0 : Int32) + (1 : Int32)) &&& (65535 : Int32))).toNatClampNeg (nar .byte (p2.toInt8.toInt32))).set (((((0 : Int32) + (1 : Int32)) + (1 : Int32)) &&& (65535 : Int32))).toNatClampNeg (nar .byte (p3.toInt8.toInt32)))))])) t → Steps p.tables e below (s₁.setTop (entryFrame m #[(.int p1), (.int p2), (.int p3), (.int p4), (.int p5), (.int p6)] maxLocals)) t := fun t kt => by
              refine pre71 _ ?_
              show Steps p.tables e below (T70.setTop (mkF m 139 #[.val (.int p1), .val (.int p2), .val (.int p3), .val (.int p4), .val (.int p5), .val (.int p6), .val (.ref b7), .val (.int (own_k p4)), .val (.int (p1.toInt8.toInt32)), .val (.int (p2.toInt8.toInt32)), .val (.int (p3.toInt8.toInt32)), .val (.int (p5 &&& (65535 : Int32))), .val (.int (p6 &&& (65535 : Int32))), .val (.int (1 : Int32))] [(.int (p2.toInt8.toInt32)), (.int (f6 (1 : Int32) ((([(0 : Int32), (0 : Int32), (0 : Int32), (0 : Int32), (0 : Int32), (0 : Int32), (0 : Int32), (0 : Int32)].set (((0 : Int32) &&& (65535 : Int32))).toNatClampNeg (nar .byte (p1.toInt8.toInt32))).set ((((0 : Int32) + (1 : Int32)) &&& (65535 : Int32))).toNatClampNeg (nar .byte (p2.toInt8.toInt32))).set (((((0 : Int32) + (1 : Int32)) + (1 : Int32)) &&& (65535 : Int32))).toNatClampNeg (nar .byte (p3.toInt8.toInt32)))))])) _
              refine XS.icmpNo X70.here hx rfl (hb hby at_139) rfl (teq hc72).2 ?_
              show Steps p.tables e below (T70.setTop (mkF m 142 _ [])) _
              refine XS.iconst X70.here hx rfl (hb hby at_142) ?_
              show Steps p.tables e below (T70.setTop (mkF m 143 _ [(.int (1 : Int32))])) _
              refine XS.goto X70.here hx rfl (pc0 := 143) (pc' := 147) rfl (hb hby at_143) (by decide) (by decide) ?_
              show Steps p.tables e below (T70.setTop (mkF m 147 _ [(.int (1 : Int32))])) _
              refine XS.istore X70.here hx rfl (hb hby at_147) rfl (l' := #[.val (.int p1), .val (.int p2), .val (.int p3), .val (.int p4), .val (.int p5), .val (.int p6), .val (.ref b7), .val (.int (own_k p4)), .val (.int (p1.toInt8.toInt32)), .val (.int (p2.toInt8.toInt32)), .val (.int (p3.toInt8.toInt32)), .val (.int (p5 &&& (65535 : Int32))), .val (.int (p6 &&& (65535 : Int32))), .val (.int (1 : Int32))]) rfl ?_
              show Steps p.tables e below (T70.setTop (mkF m 149 _ [])) _
              refine XS.iload X70.here hx rfl (hb hby at_149) rfl ?_
              show Steps p.tables e below (T70.setTop (mkF m 151 _ [(.int (own_k p4))])) _
              refine XS.iconst X70.here hx rfl (hb hby at_151) ?_
              show Steps p.tables e below (T70.setTop (mkF m 152 _ [(.int (3 : Int32)), (.int (own_k p4))])) _
              refine XS.icmpNo X70.here hx rfl (hb hby at_152) rfl (flt hc43).1 ?_
              show Steps p.tables e below (T70.setTop (mkF m 155 _ [])) _
              refine XS.iload X70.here hx rfl (hb hby at_155) rfl ?_
              show Steps p.tables e below (T70.setTop (mkF m 157 _ [(.int (1 : Int32))])) _
              refine XS.ifNo X70.here hx rfl (hb hby at_157) rfl ((if0 _ _).trans (feq (by decide)).1) ?_
              show Steps p.tables e below (T70.setTop (mkF m 160 _ [])) _
              refine XS.aload X70.here hx rfl (hb hby at_160) rfl rfl ?_
              show Steps p.tables e below (T70.setTop (mkF m 162 _ [(.ref b7)])) _
              refine XS.iconst X70.here hx rfl (hb hby at_162) ?_
              show Steps p.tables e below (T70.setTop (mkF m 163 _ [(.int (2 : Int32)), (.ref b7)])) _
              refine st73.trans ?_
              show Steps p.tables e below (T73.setTop (mkF m 166 _ [(.int (f6 (2 : Int32) ((([(0 : Int32), (0 : Int32), (0 : Int32), (0 : Int32), (0 : Int32), (0 : Int32), (0 : Int32), (0 : Int32)].set (((0 : Int32) &&& (65535 : Int32))).toNatClampNeg (nar .byte (p1.toInt8.toInt32))).set ((((0 : Int32) + (1 : Int32)) &&& (65535 : Int32))).toNatClampNeg (nar .byte (p2.toInt8.toInt32))).set (((((0 : Int32) + (1 : Int32)) + (1 : Int32)) &&& (65535 : Int32))).toNatClampNeg (nar .byte (p3.toInt8.toInt32)))))])) _
              refine XS.iload X73.here hx rfl (hb hby at_166) rfl ?_
              exact kt
            by_cases hc75 : (f6 (2 : Int32) ((([(0 : Int32), (0 : Int32), (0 : Int32), (0 : Int32), (0 : Int32), (0 : Int32), (0 : Int32), (0 : Int32)].set (((0 : Int32) &&& (65535 : Int32))).toNatClampNeg (nar .byte (p1.toInt8.toInt32))).set ((((0 : Int32) + (1 : Int32)) &&& (65535 : Int32))).toNatClampNeg (nar .byte (p2.toInt8.toInt32))).set (((((0 : Int32) + (1 : Int32)) + (1 : Int32)) &&& (65535 : Int32))).toNatClampNeg (nar .byte (p3.toInt8.toInt32)))) = (p3.toInt8.toInt32)
            · skip
              obtain ⟨fs, hr, hrun, hended, hW, hsame⟩ := X73.leave (v := some (.int (1 : Int32))) (fun h => by rw [Bd.returns] at h; cases h) (by first | exact BodyLoose.notSynchronized Bd | exact Body.notSynchronized Bd)
              refine ⟨_, _, pre74 _ ?_, hrun, hended, _, _, rfl, ?_, ⟨_, rfl⟩, hW, hsame.mono (by decide) (by decide)⟩
              · show Steps p.tables e below (T73.setTop (mkF m 168 #[.val (.int p1), .val (.int p2), .val (.int p3), .val (.int p4), .val (.int p5), .val (.int p6), .val (.ref b7), .val (.int (own_k p4)), .val (.int (p1.toInt8.toInt32)), .val (.int (p2.toInt8.toInt32)), .val (.int (p3.toInt8.toInt32)), .val (.int (p5 &&& (65535 : Int32))), .val (.int (p6 &&& (65535 : Int32))), .val (.int (1 : Int32))] [(.int (p3.toInt8.toInt32)), (.int (f6 (2 : Int32) ((([(0 : Int32), (0 : Int32), (0 : Int32), (0 : Int32), (0 : Int32), (0 : Int32), (0 : Int32), (0 : Int32)].set (((0 : Int32) &&& (65535 : Int32))).toNatClampNeg (nar .byte (p1.toInt8.toInt32))).set ((((0 : Int32) + (1 : Int32)) &&& (65535 : Int32))).toNatClampNeg (nar .byte (p2.toInt8.toInt32))).set (((((0 : Int32) + (1 : Int32)) + (1 : Int32)) &&& (65535 : Int32))).toNatClampNeg (nar .byte (p3.toInt8.toInt32)))))])) _
                refine XS.icmpNo X73.here hx rfl (hb hby at_168) rfl (teq hc75).2 ?_
                show Steps p.tables e below (T73.setTop (mkF m 171 _ [])) _
                refine XS.iconst X73.here hx rfl (hb hby at_171) ?_
                show Steps p.tables e below (T73.setTop (mkF m 172 _ [(.int (1 : Int32))])) _
                refine XS.goto X73.here hx rfl (pc0 := 172) (pc' := 176) rfl (hb hby at_172) (by decide) (by decide) ?_
                show Steps p.tables e below (T73.setTop (mkF m 176 _ [(.int (1 : Int32))])) _
                refine XS.istore X73.here hx rfl (hb hby at_176) rfl (l' := #[.val (.int p1), .val (.int p2), .val (.int p3), .val (.int p4), .val (.int p5), .val (.int p6), .val (.ref b7), .val (.int (own_k p4)), .val (.int (p1.toInt8.toInt32)), .val (.int (p2.toInt8.toInt32)), .val (.int (p3.toInt8.toInt32)), .val (.int (p5 &&& (65535 : Int32))), .val (.int (p6 &&& (65535 : Int32))), .val (.int (1 : Int32))]) rfl ?_
                show Steps p.tables e below (T73.setTop (mkF m 178 _ [])) _
                refine XS.iload X73.here hx rfl (hb hby at_178) rfl ?_
                show Steps p.tables e below (T73.setTop (mkF m 180 #[.val (.int p1), .val (.int p2), .val (.int p3), .val (.int p4), .val (.int p5), .val (.int p6), .val (.ref b7), .val (.int (own_k p4)), .val (.int (p1.toInt8.toInt32)), .val (.int (p2.toInt8.toInt32)), .val (.int (p3.toInt8.toInt32)), .val (.int (p5 &&& (65535 : Int32))), .val (.int (p6 &&& (65535 : Int32))), .val (.int (1 : Int32))] [(.int (1 : Int32))])) _
                exact retN X73 hx (t := .boolean) Bd.returns (by simp) (hb hby at_180) hr
              · show Q0 Z p1 p2 p3 p4 p5 p6 h0 n0 _ T73.heap _
                rw [e73]
                exact ⟨congrArg (fun z => some (Value.int z)) (by rw [f0, if_neg hc13, if_neg hc43, if_pos hc66, if_pos hc69, if_pos hc72, if_pos hc75] : f0 p1 p2 p3 p4 p5 p6 = (1 : Int32)).symm, N73⟩
            · skip
              obtain ⟨fs, hr, hrun, hended, hW, hsame⟩ := X73.leave (v := some (.int (0 : Int32))) (fun h => by rw [Bd.returns] at h; cases h) (by first | exact BodyLoose.notSynchronized Bd | exact Body.notSynchronized Bd)
              refine ⟨_, _, pre74 _ ?_, hrun, hended, _, _, rfl, ?_, ⟨_, rfl⟩, hW, hsame.mono (by decide) (by decide)⟩
              · show Steps p.tables e below (T73.setTop (mkF m 168 #[.val (.int p1), .val (.int p2), .val (.int p3), .val (.int p4), .val (.int p5), .val (.int p6), .val (.ref b7), .val (.int (own_k p4)), .val (.int (p1.toInt8.toInt32)), .val (.int (p2.toInt8.toInt32)), .val (.int (p3.toInt8.toInt32)), .val (.int (p5 &&& (65535 : Int32))), .val (.int (p6 &&& (65535 : Int32))), .val (.int (1 : Int32))] [(.int (p3.toInt8.toInt32)), (.int (f6 (2 : Int32) ((([(0 : Int32), (0 : Int32), (0 : Int32), (0 : Int32), (0 : Int32), (0 : Int32), (0 : Int32), (0 : Int32)].set (((0 : Int32) &&& (65535 : Int32))).toNatClampNeg (nar .byte (p1.toInt8.toInt32))).set ((((0 : Int32) + (1 : Int32)) &&& (65535 : Int32))).toNatClampNeg (nar .byte (p2.toInt8.toInt32))).set (((((0 : Int32) + (1 : Int32)) + (1 : Int32)) &&& (65535 : Int32))).toNatClampNeg (nar .byte (p3.toInt8.toInt32)))))])) _
                refine XS.icmpYes X73.here hx rfl (pc0 := 168) (pc' := 175) rfl (hb hby at_168) rfl (feq hc75).2 (by decide) (by decide) ?_
                show Steps p.tables e below (T73.setTop (mkF m 175 _ [])) _
                refine XS.iconst X73.here hx rfl (hb hby at_175) ?_
                show Steps p.tables e below (T73.setTop (mkF m 176 _ [(.int (0 : Int32))])) _
                refine XS.istore X73.here hx rfl (hb hby at_176) rfl (l' := #[.val (.int p1), .val (.int p2), .val (.int p3), .val (.int p4), .val (.int p5), .val (.int p6), .val (.ref b7), .val (.int (own_k p4)), .val (.int (p1.toInt8.toInt32)), .val (.int (p2.toInt8.toInt32)), .val (.int (p3.toInt8.toInt32)), .val (.int (p5 &&& (65535 : Int32))), .val (.int (p6 &&& (65535 : Int32))), .val (.int (0 : Int32))]) rfl ?_
                show Steps p.tables e below (T73.setTop (mkF m 178 _ [])) _
                refine XS.iload X73.here hx rfl (hb hby at_178) rfl ?_
                show Steps p.tables e below (T73.setTop (mkF m 180 #[.val (.int p1), .val (.int p2), .val (.int p3), .val (.int p4), .val (.int p5), .val (.int p6), .val (.ref b7), .val (.int (own_k p4)), .val (.int (p1.toInt8.toInt32)), .val (.int (p2.toInt8.toInt32)), .val (.int (p3.toInt8.toInt32)), .val (.int (p5 &&& (65535 : Int32))), .val (.int (p6 &&& (65535 : Int32))), .val (.int (0 : Int32))] [(.int (0 : Int32))])) _
                exact retN X73 hx (t := .boolean) Bd.returns (by simp) (hb hby at_180) hr
              · show Q0 Z p1 p2 p3 p4 p5 p6 h0 n0 _ T73.heap _
                rw [e73]
                exact ⟨congrArg (fun z => some (Value.int z)) (by rw [f0, if_neg hc13, if_neg hc43, if_pos hc66, if_pos hc69, if_pos hc72, if_neg hc75] : f0 p1 p2 p3 p4 p5 p6 = (0 : Int32)).symm, N73⟩
          · skip
            obtain ⟨fs, hr, hrun, hended, hW, hsame⟩ := X70.leave (v := some (.int (0 : Int32))) (fun h => by rw [Bd.returns] at h; cases h) (by first | exact BodyLoose.notSynchronized Bd | exact Body.notSynchronized Bd)
            refine ⟨_, _, pre71 _ ?_, hrun, hended, _, _, rfl, ?_, ⟨_, rfl⟩, hW, hsame.mono (by decide) (by decide)⟩
            · show Steps p.tables e below (T70.setTop (mkF m 139 #[.val (.int p1), .val (.int p2), .val (.int p3), .val (.int p4), .val (.int p5), .val (.int p6), .val (.ref b7), .val (.int (own_k p4)), .val (.int (p1.toInt8.toInt32)), .val (.int (p2.toInt8.toInt32)), .val (.int (p3.toInt8.toInt32)), .val (.int (p5 &&& (65535 : Int32))), .val (.int (p6 &&& (65535 : Int32))), .val (.int (1 : Int32))] [(.int (p2.toInt8.toInt32)), (.int (f6 (1 : Int32) ((([(0 : Int32), (0 : Int32), (0 : Int32), (0 : Int32), (0 : Int32), (0 : Int32), (0 : Int32), (0 : Int32)].set (((0 : Int32) &&& (65535 : Int32))).toNatClampNeg (nar .byte (p1.toInt8.toInt32))).set ((((0 : Int32) + (1 : Int32)) &&& (65535 : Int32))).toNatClampNeg (nar .byte (p2.toInt8.toInt32))).set (((((0 : Int32) + (1 : Int32)) + (1 : Int32)) &&& (65535 : Int32))).toNatClampNeg (nar .byte (p3.toInt8.toInt32)))))])) _
              refine XS.icmpYes X70.here hx rfl (pc0 := 139) (pc' := 146) rfl (hb hby at_139) rfl (feq hc72).2 (by decide) (by decide) ?_
              show Steps p.tables e below (T70.setTop (mkF m 146 _ [])) _
              refine XS.iconst X70.here hx rfl (hb hby at_146) ?_
              show Steps p.tables e below (T70.setTop (mkF m 147 _ [(.int (0 : Int32))])) _
              refine XS.istore X70.here hx rfl (hb hby at_147) rfl (l' := #[.val (.int p1), .val (.int p2), .val (.int p3), .val (.int p4), .val (.int p5), .val (.int p6), .val (.ref b7), .val (.int (own_k p4)), .val (.int (p1.toInt8.toInt32)), .val (.int (p2.toInt8.toInt32)), .val (.int (p3.toInt8.toInt32)), .val (.int (p5 &&& (65535 : Int32))), .val (.int (p6 &&& (65535 : Int32))), .val (.int (0 : Int32))]) rfl ?_
              show Steps p.tables e below (T70.setTop (mkF m 149 _ [])) _
              refine XS.iload X70.here hx rfl (hb hby at_149) rfl ?_
              show Steps p.tables e below (T70.setTop (mkF m 151 _ [(.int (own_k p4))])) _
              refine XS.iconst X70.here hx rfl (hb hby at_151) ?_
              show Steps p.tables e below (T70.setTop (mkF m 152 _ [(.int (3 : Int32)), (.int (own_k p4))])) _
              refine XS.icmpNo X70.here hx rfl (hb hby at_152) rfl (flt hc43).1 ?_
              show Steps p.tables e below (T70.setTop (mkF m 155 _ [])) _
              refine XS.iload X70.here hx rfl (hb hby at_155) rfl ?_
              show Steps p.tables e below (T70.setTop (mkF m 157 _ [(.int (0 : Int32))])) _
              refine XS.ifYes X70.here hx rfl (pc0 := 157) (pc' := 175) rfl (hb hby at_157) rfl ((if0 _ _).trans (teq (by decide)).1) (by decide) (by decide) ?_
              show Steps p.tables e below (T70.setTop (mkF m 175 _ [])) _
              refine XS.iconst X70.here hx rfl (hb hby at_175) ?_
              show Steps p.tables e below (T70.setTop (mkF m 176 _ [(.int (0 : Int32))])) _
              refine XS.istore X70.here hx rfl (hb hby at_176) rfl (l' := #[.val (.int p1), .val (.int p2), .val (.int p3), .val (.int p4), .val (.int p5), .val (.int p6), .val (.ref b7), .val (.int (own_k p4)), .val (.int (p1.toInt8.toInt32)), .val (.int (p2.toInt8.toInt32)), .val (.int (p3.toInt8.toInt32)), .val (.int (p5 &&& (65535 : Int32))), .val (.int (p6 &&& (65535 : Int32))), .val (.int (0 : Int32))]) rfl ?_
              show Steps p.tables e below (T70.setTop (mkF m 178 _ [])) _
              refine XS.iload X70.here hx rfl (hb hby at_178) rfl ?_
              show Steps p.tables e below (T70.setTop (mkF m 180 #[.val (.int p1), .val (.int p2), .val (.int p3), .val (.int p4), .val (.int p5), .val (.int p6), .val (.ref b7), .val (.int (own_k p4)), .val (.int (p1.toInt8.toInt32)), .val (.int (p2.toInt8.toInt32)), .val (.int (p3.toInt8.toInt32)), .val (.int (p5 &&& (65535 : Int32))), .val (.int (p6 &&& (65535 : Int32))), .val (.int (0 : Int32))] [(.int (0 : Int32))])) _
              exact retN X70 hx (t := .boolean) Bd.returns (by simp) (hb hby at_180) hr
            · show Q0 Z p1 p2 p3 p4 p5 p6 h0 n0 _ T70.heap _
              rw [e70]
              exact ⟨congrArg (fun z => some (Value.int z)) (by rw [f0, if_neg hc13, if_neg hc43, if_pos hc66, if_pos hc69, if_neg hc72] : f0 p1 p2 p3 p4 p5 p6 = (0 : Int32)).symm, N70⟩
        · skip
          obtain ⟨fs, hr, hrun, hended, hW, hsame⟩ := X67.leave (v := some (.int (0 : Int32))) (fun h => by rw [Bd.returns] at h; cases h) (by first | exact BodyLoose.notSynchronized Bd | exact Body.notSynchronized Bd)
          refine ⟨_, _, pre68 _ ?_, hrun, hended, _, _, rfl, ?_, ⟨_, rfl⟩, hW, hsame.mono (by decide) (by decide)⟩
          · show Steps p.tables e below (T67.setTop (mkF m 110 #[.val (.int p1), .val (.int p2), .val (.int p3), .val (.int p4), .val (.int p5), .val (.int p6), .val (.ref b7), .val (.int (own_k p4)), .val (.int (p1.toInt8.toInt32)), .val (.int (p2.toInt8.toInt32)), .val (.int (p3.toInt8.toInt32)), .val (.int (p5 &&& (65535 : Int32))), .val (.int (p6 &&& (65535 : Int32))), .unset] [(.int (p1.toInt8.toInt32)), (.int (f6 (0 : Int32) ((([(0 : Int32), (0 : Int32), (0 : Int32), (0 : Int32), (0 : Int32), (0 : Int32), (0 : Int32), (0 : Int32)].set (((0 : Int32) &&& (65535 : Int32))).toNatClampNeg (nar .byte (p1.toInt8.toInt32))).set ((((0 : Int32) + (1 : Int32)) &&& (65535 : Int32))).toNatClampNeg (nar .byte (p2.toInt8.toInt32))).set (((((0 : Int32) + (1 : Int32)) + (1 : Int32)) &&& (65535 : Int32))).toNatClampNeg (nar .byte (p3.toInt8.toInt32)))))])) _
            refine XS.icmpYes X67.here hx rfl (pc0 := 110) (pc' := 117) rfl (hb hby at_110) rfl (feq hc69).2 (by decide) (by decide) ?_
            show Steps p.tables e below (T67.setTop (mkF m 117 _ [])) _
            refine XS.iconst X67.here hx rfl (hb hby at_117) ?_
            show Steps p.tables e below (T67.setTop (mkF m 118 _ [(.int (0 : Int32))])) _
            refine XS.istore X67.here hx rfl (hb hby at_118) rfl (l' := #[.val (.int p1), .val (.int p2), .val (.int p3), .val (.int p4), .val (.int p5), .val (.int p6), .val (.ref b7), .val (.int (own_k p4)), .val (.int (p1.toInt8.toInt32)), .val (.int (p2.toInt8.toInt32)), .val (.int (p3.toInt8.toInt32)), .val (.int (p5 &&& (65535 : Int32))), .val (.int (p6 &&& (65535 : Int32))), .val (.int (0 : Int32))]) rfl ?_
            show Steps p.tables e below (T67.setTop (mkF m 120 _ [])) _
            refine XS.iload X67.here hx rfl (hb hby at_120) rfl ?_
            show Steps p.tables e below (T67.setTop (mkF m 122 _ [(.int (own_k p4))])) _
            refine XS.iconst X67.here hx rfl (hb hby at_122) ?_
            show Steps p.tables e below (T67.setTop (mkF m 123 _ [(.int (2 : Int32)), (.int (own_k p4))])) _
            refine XS.icmpNo X67.here hx rfl (hb hby at_123) rfl (flt hc13).1 ?_
            show Steps p.tables e below (T67.setTop (mkF m 126 _ [])) _
            refine XS.iload X67.here hx rfl (hb hby at_126) rfl ?_
            show Steps p.tables e below (T67.setTop (mkF m 128 _ [(.int (0 : Int32))])) _
            refine XS.ifYes X67.here hx rfl (pc0 := 128) (pc' := 146) rfl (hb hby at_128) rfl ((if0 _ _).trans (teq (by decide)).1) (by decide) (by decide) ?_
            show Steps p.tables e below (T67.setTop (mkF m 146 _ [])) _
            refine XS.iconst X67.here hx rfl (hb hby at_146) ?_
            show Steps p.tables e below (T67.setTop (mkF m 147 _ [(.int (0 : Int32))])) _
            refine XS.istore X67.here hx rfl (hb hby at_147) rfl (l' := #[.val (.int p1), .val (.int p2), .val (.int p3), .val (.int p4), .val (.int p5), .val (.int p6), .val (.ref b7), .val (.int (own_k p4)), .val (.int (p1.toInt8.toInt32)), .val (.int (p2.toInt8.toInt32)), .val (.int (p3.toInt8.toInt32)), .val (.int (p5 &&& (65535 : Int32))), .val (.int (p6 &&& (65535 : Int32))), .val (.int (0 : Int32))]) rfl ?_
            show Steps p.tables e below (T67.setTop (mkF m 149 _ [])) _
            refine XS.iload X67.here hx rfl (hb hby at_149) rfl ?_
            show Steps p.tables e below (T67.setTop (mkF m 151 _ [(.int (own_k p4))])) _
            refine XS.iconst X67.here hx rfl (hb hby at_151) ?_
            show Steps p.tables e below (T67.setTop (mkF m 152 _ [(.int (3 : Int32)), (.int (own_k p4))])) _
            refine XS.icmpNo X67.here hx rfl (hb hby at_152) rfl (flt hc43).1 ?_
            show Steps p.tables e below (T67.setTop (mkF m 155 _ [])) _
            refine XS.iload X67.here hx rfl (hb hby at_155) rfl ?_
            show Steps p.tables e below (T67.setTop (mkF m 157 _ [(.int (0 : Int32))])) _
            refine XS.ifYes X67.here hx rfl (pc0 := 157) (pc' := 175) rfl (hb hby at_157) rfl ((if0 _ _).trans (teq (by decide)).1) (by decide) (by decide) ?_
            show Steps p.tables e below (T67.setTop (mkF m 175 _ [])) _
            refine XS.iconst X67.here hx rfl (hb hby at_175) ?_
            show Steps p.tables e below (T67.setTop (mkF m 176 _ [(.int (0 : Int32))])) _
            refine XS.istore X67.here hx rfl (hb hby at_176) rfl (l' := #[.val (.int p1), .val (.int p2), .val (.int p3), .val (.int p4), .val (.int p5), .val (.int p6), .val (.ref b7), .val (.int (own_k p4)), .val (.int (p1.toInt8.toInt32)), .val (.int (p2.toInt8.toInt32)), .val (.int (p3.toInt8.toInt32)), .val (.int (p5 &&& (65535 : Int32))), .val (.int (p6 &&& (65535 : Int32))), .val (.int (0 : Int32))]) rfl ?_
            show Steps p.tables e below (T67.setTop (mkF m 178 _ [])) _
            refine XS.iload X67.here hx rfl (hb hby at_178) rfl ?_
            show Steps p.tables e below (T67.setTop (mkF m 180 #[.val (.int p1), .val (.int p2), .val (.int p3), .val (.int p4), .val (.int p5), .val (.int p6), .val (.ref b7), .val (.int (own_k p4)), .val (.int (p1.toInt8.toInt32)), .val (.int (p2.toInt8.toInt32)), .val (.int (p3.toInt8.toInt32)), .val (.int (p5 &&& (65535 : Int32))), .val (.int (p6 &&& (65535 : Int32))), .val (.int (0 : Int32))] [(.int (0 : Int32))])) _
            exact retN X67 hx (t := .boolean) Bd.returns (by simp) (hb hby at_180) hr
          · show Q0 Z p1 p2 p3 p4 p5 p6 h0 n0 _ T67.heap _
            rw [e67]
            exact ⟨congrArg (fun z => some (Value.int z)) (by rw [f0, if_neg hc13, if_neg hc43, if_pos hc66, if_neg hc69] : f0 p1 p2 p3 p4 p5 p6 = (0 : Int32)).symm, N67⟩
      · skip
        obtain ⟨fs, hr, hrun, hended, hW, hsame⟩ := X64.leave (v := some (.int (0 : Int32))) (fun h => by rw [Bd.returns] at h; cases h) (by first | exact BodyLoose.notSynchronized Bd | exact Body.notSynchronized Bd)
        refine ⟨_, _, pre65 _ ?_, hrun, hended, _, _, rfl, ?_, ⟨_, rfl⟩, hW, hsame.mono (by decide) (by decide)⟩
        · show Steps p.tables e below (T64.setTop (mkF m 99 #[.val (.int p1), .val (.int p2), .val (.int p3), .val (.int p4), .val (.int p5), .val (.int p6), .val (.ref b7), .val (.int (own_k p4)), .val (.int (p1.toInt8.toInt32)), .val (.int (p2.toInt8.toInt32)), .val (.int (p3.toInt8.toInt32)), .val (.int (p5 &&& (65535 : Int32))), .val (.int (p6 &&& (65535 : Int32))), .unset] [(.int (own_k p4)), (.int ((((0 : Int32) + (1 : Int32)) + (1 : Int32)) + (1 : Int32)))])) _
          refine XS.icmpYes X64.here hx rfl (pc0 := 99) (pc' := 117) rfl (hb hby at_99) rfl (feq hc66).2 (by decide) (by decide) ?_
          show Steps p.tables e below (T64.setTop (mkF m 117 _ [])) _
          refine XS.iconst X64.here hx rfl (hb hby at_117) ?_
          show Steps p.tables e below (T64.setTop (mkF m 118 _ [(.int (0 : Int32))])) _
          refine XS.istore X64.here hx rfl (hb hby at_118) rfl (l' := #[.val (.int p1), .val (.int p2), .val (.int p3), .val (.int p4), .val (.int p5), .val (.int p6), .val (.ref b7), .val (.int (own_k p4)), .val (.int (p1.toInt8.toInt32)), .val (.int (p2.toInt8.toInt32)), .val (.int (p3.toInt8.toInt32)), .val (.int (p5 &&& (65535 : Int32))), .val (.int (p6 &&& (65535 : Int32))), .val (.int (0 : Int32))]) rfl ?_
          show Steps p.tables e below (T64.setTop (mkF m 120 _ [])) _
          refine XS.iload X64.here hx rfl (hb hby at_120) rfl ?_
          show Steps p.tables e below (T64.setTop (mkF m 122 _ [(.int (own_k p4))])) _
          refine XS.iconst X64.here hx rfl (hb hby at_122) ?_
          show Steps p.tables e below (T64.setTop (mkF m 123 _ [(.int (2 : Int32)), (.int (own_k p4))])) _
          refine XS.icmpNo X64.here hx rfl (hb hby at_123) rfl (flt hc13).1 ?_
          show Steps p.tables e below (T64.setTop (mkF m 126 _ [])) _
          refine XS.iload X64.here hx rfl (hb hby at_126) rfl ?_
          show Steps p.tables e below (T64.setTop (mkF m 128 _ [(.int (0 : Int32))])) _
          refine XS.ifYes X64.here hx rfl (pc0 := 128) (pc' := 146) rfl (hb hby at_128) rfl ((if0 _ _).trans (teq (by decide)).1) (by decide) (by decide) ?_
          show Steps p.tables e below (T64.setTop (mkF m 146 _ [])) _
          refine XS.iconst X64.here hx rfl (hb hby at_146) ?_
          show Steps p.tables e below (T64.setTop (mkF m 147 _ [(.int (0 : Int32))])) _
          refine XS.istore X64.here hx rfl (hb hby at_147) rfl (l' := #[.val (.int p1), .val (.int p2), .val (.int p3), .val (.int p4), .val (.int p5), .val (.int p6), .val (.ref b7), .val (.int (own_k p4)), .val (.int (p1.toInt8.toInt32)), .val (.int (p2.toInt8.toInt32)), .val (.int (p3.toInt8.toInt32)), .val (.int (p5 &&& (65535 : Int32))), .val (.int (p6 &&& (65535 : Int32))), .val (.int (0 : Int32))]) rfl ?_
          show Steps p.tables e below (T64.setTop (mkF m 149 _ [])) _
          refine XS.iload X64.here hx rfl (hb hby at_149) rfl ?_
          show Steps p.tables e below (T64.setTop (mkF m 151 _ [(.int (own_k p4))])) _
          refine XS.iconst X64.here hx rfl (hb hby at_151) ?_
          show Steps p.tables e below (T64.setTop (mkF m 152 _ [(.int (3 : Int32)), (.int (own_k p4))])) _
          refine XS.icmpNo X64.here hx rfl (hb hby at_152) rfl (flt hc43).1 ?_
          show Steps p.tables e below (T64.setTop (mkF m 155 _ [])) _
          refine XS.iload X64.here hx rfl (hb hby at_155) rfl ?_
          show Steps p.tables e below (T64.setTop (mkF m 157 _ [(.int (0 : Int32))])) _
          refine XS.ifYes X64.here hx rfl (pc0 := 157) (pc' := 175) rfl (hb hby at_157) rfl ((if0 _ _).trans (teq (by decide)).1) (by decide) (by decide) ?_
          show Steps p.tables e below (T64.setTop (mkF m 175 _ [])) _
          refine XS.iconst X64.here hx rfl (hb hby at_175) ?_
          show Steps p.tables e below (T64.setTop (mkF m 176 _ [(.int (0 : Int32))])) _
          refine XS.istore X64.here hx rfl (hb hby at_176) rfl (l' := #[.val (.int p1), .val (.int p2), .val (.int p3), .val (.int p4), .val (.int p5), .val (.int p6), .val (.ref b7), .val (.int (own_k p4)), .val (.int (p1.toInt8.toInt32)), .val (.int (p2.toInt8.toInt32)), .val (.int (p3.toInt8.toInt32)), .val (.int (p5 &&& (65535 : Int32))), .val (.int (p6 &&& (65535 : Int32))), .val (.int (0 : Int32))]) rfl ?_
          show Steps p.tables e below (T64.setTop (mkF m 178 _ [])) _
          refine XS.iload X64.here hx rfl (hb hby at_178) rfl ?_
          show Steps p.tables e below (T64.setTop (mkF m 180 #[.val (.int p1), .val (.int p2), .val (.int p3), .val (.int p4), .val (.int p5), .val (.int p6), .val (.ref b7), .val (.int (own_k p4)), .val (.int (p1.toInt8.toInt32)), .val (.int (p2.toInt8.toInt32)), .val (.int (p3.toInt8.toInt32)), .val (.int (p5 &&& (65535 : Int32))), .val (.int (p6 &&& (65535 : Int32))), .val (.int (0 : Int32))] [(.int (0 : Int32))])) _
          exact retN X64 hx (t := .boolean) Bd.returns (by simp) (hb hby at_180) hr
        · show Q0 Z p1 p2 p3 p4 p5 p6 h0 n0 _ T64.heap _
          rw [e64]
          exact ⟨congrArg (fun z => some (Value.int z)) (by rw [f0, if_neg hc13, if_neg hc43, if_neg hc66] : f0 p1 p2 p3 p4 p5 p6 = (0 : Int32)).symm, N64⟩
theorem own_rem (x y : Int32) : x - (x / y) * y = x % y := by
  apply Int32.toInt_inj.mp
  by_cases h : x = Int32.minValue ∧ y = -1
  · obtain ⟨rfl, rfl⟩ := h; decide
  · have hd : (x / y).toInt = x.toInt.tdiv y.toInt := Jvm.Kit.i32_div (fun q => h ⟨Int32.toInt_inj.mp q.1, Int32.toInt_inj.mp q.2⟩)
    have h1 := c_imul (x / y) y
    have h2 := c_isub x ((x / y) * y)
    have h3 := Int.tmod_add_tdiv_mul x.toInt y.toInt
    have h4 := rng32 (x - (x / y) * y)
    have h5 := rng32 (x % y)
    rw [hd] at h1
    rw [Int32.toInt_mod] at h5 ⊢
    omega
theorem own_kr (p : Int32) : own_k p = 1 ∨ own_k p = 2 ∨ own_k p = 3 := by
  have h1 := c_mask p 2147483647 31 (by decide) (by decide)
  have h2 := (c_irem (p &&& 2147483647) 3 3 rfl).1 (by omega)
  have h3 := c_iadd 1 ((p &&& 2147483647) % 3)
  have h4 := rng32 (1 + (p &&& 2147483647) % 3)
  have h5 : (1 : Int32).toInt = 1 := rfl
  have h6 : own_k p = 1 + (p &&& 2147483647) % 3 := by unfold own_k; rw [own_rem]
  rw [h6]
  simp only [← Int32.toInt_inj, show (1 : Int32).toInt = 1 from rfl, show (2 : Int32).toInt = 2 from rfl, show (3 : Int32).toInt = 3 from rfl]
  omega
theorem own_nb (x : Int32) : nar .byte (nar .byte (x.toInt8.toInt32)) = x.toInt8.toInt32 := by
  show ((x.toInt8.toInt32.toInt8.toInt32).toInt8).toInt32 = _
  rw [Int8.toInt8_toInt32, Int8.toInt8_toInt32]
theorem own_a1 (a b c : Int32) : f6 (0 : Int32) ([(0 : Int32), (0 : Int32), (0 : Int32), (0 : Int32), (0 : Int32), (0 : Int32), (0 : Int32), (0 : Int32)].set (((0 : Int32) &&& (65535 : Int32))).toNatClampNeg a) = nar .byte a := rfl
theorem own_a2 (a b c : Int32) : f6 (0 : Int32) (([(0 : Int32), (0 : Int32), (0 : Int32), (0 : Int32), (0 : Int32), (0 : Int32), (0 : Int32), (0 : Int32)].set (((0 : Int32) &&& (65535 : Int32))).toNatClampNeg a).set ((((0 : Int32) + (1 : Int32)) &&& (65535 : Int32))).toNatClampNeg b) = nar .byte a := rfl
theorem own_a3 (a b c : Int32) : f6 (0 : Int32) ((([(0 : Int32), (0 : Int32), (0 : Int32), (0 : Int32), (0 : Int32), (0 : Int32), (0 : Int32), (0 : Int32)].set (((0 : Int32) &&& (65535 : Int32))).toNatClampNeg a).set ((((0 : Int32) + (1 : Int32)) &&& (65535 : Int32))).toNatClampNeg b).set (((((0 : Int32) + (1 : Int32)) + (1 : Int32)) &&& (65535 : Int32))).toNatClampNeg c) = nar .byte a := rfl
theorem own_b2 (a b c : Int32) : f6 (1 : Int32) (([(0 : Int32), (0 : Int32), (0 : Int32), (0 : Int32), (0 : Int32), (0 : Int32), (0 : Int32), (0 : Int32)].set (((0 : Int32) &&& (65535 : Int32))).toNatClampNeg a).set ((((0 : Int32) + (1 : Int32)) &&& (65535 : Int32))).toNatClampNeg b) = nar .byte b := rfl
theorem own_b3 (a b c : Int32) : f6 (1 : Int32) ((([(0 : Int32), (0 : Int32), (0 : Int32), (0 : Int32), (0 : Int32), (0 : Int32), (0 : Int32), (0 : Int32)].set (((0 : Int32) &&& (65535 : Int32))).toNatClampNeg a).set ((((0 : Int32) + (1 : Int32)) &&& (65535 : Int32))).toNatClampNeg b).set (((((0 : Int32) + (1 : Int32)) + (1 : Int32)) &&& (65535 : Int32))).toNatClampNeg c) = nar .byte b := rfl
theorem own_c3 (a b c : Int32) : f6 (2 : Int32) ((([(0 : Int32), (0 : Int32), (0 : Int32), (0 : Int32), (0 : Int32), (0 : Int32), (0 : Int32), (0 : Int32)].set (((0 : Int32) &&& (65535 : Int32))).toNatClampNeg a).set ((((0 : Int32) + (1 : Int32)) &&& (65535 : Int32))).toNatClampNeg b).set (((((0 : Int32) + (1 : Int32)) + (1 : Int32)) &&& (65535 : Int32))).toNatClampNeg c) = nar .byte c := rfl
theorem own_plain (p1 p2 p3 p4 p5 p6 : Int32) : f0 p1 p2 p3 p4 p5 p6 = 1 := by
  have e1 := own_nb p1
  have e2 := own_nb p2
  have e3 := own_nb p3
  unfold f0
  rcases own_kr p4 with k | k | k
  · rw [k, if_pos (by decide), if_pos (by decide), if_pos (by decide), own_a1 _ 0 0, e1, if_pos rfl]
  · rw [k, if_neg (by decide), if_pos (by decide), if_pos (by decide), own_a2 _ _ 0, e1, if_pos rfl, own_b2 _ _ 0, e2, if_pos rfl]
  · rw [k, if_neg (by decide), if_neg (by decide), if_pos (by decide), own_a3, e1, if_pos rfl, own_b3, e2, if_pos rfl, own_c3, e3, if_pos rfl]
set_option maxRecDepth 65536 in
set_option maxHeartbeats 40000000 in
theorem comes_1 {Post : Tables → Env → Array Value → State → Outcome → State → Prop} (hpost : ∀ tb e args s v u, (limb_1_1.after args s (.returned v) u = true ∧ limb_1_2.after args s (.returned v) u = true ∧ True) → FrameEnd s (.returned v) u (Jvm.fieldLocs frame_1_writes args s ++ Jvm.arrayLocs frame_1_arrays args s ++ Jvm.staticLocs frame_1_statics s) 16 131200 → Post tb e args s (.returned v) u) :
    ArmFor flags0 classFile x code maxLocals ret World_1 tables_1 room_1 Calls_1 rest_1 Pre_1 Post := by
  intro l hfl _ _ p e ha hc hk s m args below hf hA hF happ hP
  obtain ⟨hcalls, hrest, hpre⟩ := hP
  obtain ⟨-, -, -, hnamed, -, -, -, hat⟩ := (Spec.applies_iff hf).mp happ
  obtain ⟨hg, hn⟩ := and_e (Cond.before_iff.mp (show (Jvm.Cond.and given_1 narrow_1).before args s = true from hpre))
  obtain ⟨gc, hg⟩ := and_e hg
  obtain ⟨gi0, hg⟩ := and_e hg
  obtain ⟨gi1, hg⟩ := and_e hg
  obtain ⟨gi2, hg⟩ := and_e hg
  obtain ⟨gi3, hg⟩ := and_e hg
  obtain ⟨gi4, hg⟩ := and_e hg
  obtain ⟨w0, w1, w2, w3, w4, w5, rfl⟩ : ∃ w0 w1 w2 w3 w4 w5 : Value, args = #[w0, w1, w2, w3, w4, w5] := by
    have hs : args.size = 6 := by simpa [Cond.value, given_1] using gc
    obtain ⟨L⟩ := args
    match L, hs with
    | [w0, w1, w2, w3, w4, w5], _ => exact ⟨w0, w1, w2, w3, w4, w5, rfl⟩
  have hw := fun d (hd : d ∈ tables_1) => atoms_spec (ws := Jvm.Cond.code x code maxLocals ret :: tables_1) hat d (List.mem_cons_of_mem _ hd)
  obtain ⟨i0, ei0⟩ := is_v gi0
  obtain rfl : w0 = (.int i0) := Option.some.inj ei0
  obtain ⟨i1, ei1⟩ := is_v gi1
  obtain rfl : w1 = (.int i1) := Option.some.inj ei1
  obtain ⟨i2, ei2⟩ := is_v gi2
  obtain rfl : w2 = (.int i2) := Option.some.inj ei2
  obtain ⟨i3, ei3⟩ := is_v gi3
  obtain rfl : w3 = (.int i3) := Option.some.inj ei3
  obtain ⟨i4, ei4⟩ := is_v gi4
  obtain rfl : w4 = (.int i4) := Option.some.inj ei4
  obtain ⟨i5, ei5⟩ := is_v hg
  obtain rfl : w5 = (.int i5) := Option.some.inj ei5
  obtain ⟨n, o, h1, h2, h3, vr, L, rfl, ⟨hvr, N⟩, hq⟩ := rm0 l s _ hw tables_1 i0 i1 i2 i3 i4 i5 s.heap s.heap.size (Nat.le_refl _)  p e ha hc hk s m _ below hf ((Spec.applies_iff_loose hf).mp happ).1 ⟨rfl, State.Warmed39.refl s, rfl⟩ trivial
  have hpl : f0 i0 i1 i2 i3 i4 i5 = 1 := own_plain i0 i1 i2 i3 i4 i5 
  rw [hpl] at hvr
  subst hvr
  refine ⟨n, _, h1, h2, h3, hpost _ _ _ _ _ _ ⟨Cond.after_iff.mpr rfl, Cond.after_iff.mpr (eq_i res_at (Term.int_eval (1)) rfl), trivial⟩ ⟨hq.1, hq.2.1, (hq.2.2.sift fun y hy => Or.inr (N y hy)).mono (by decide) (by decide)⟩⟩
theorem main_1_1 : Claimed_1_1 := comes_1 fun _ _ _ _ _ _ h hF => ⟨h.1, hF⟩
theorem main_1_2 : Claimed_1_2 := comes_1 fun _ _ _ _ _ _ h hF => ⟨h.2.1, hF⟩

end Jvm.Pilot.@@N@@
namespace Jvm.Pilot.@@N@@
open Jvm Jvm.ClassFile Sem Op Lib Jvm.Free Jvm.Stand Jvm.Pilot.@@N@@.Jvm.D
/-! MADE BY PROGRAM (witnessworld.py) out of the Statement's table words and the real class files: 9 classes; the members and pool entries that the words name. The judged class is class 1, her method 1. -/
namespace start1
open Jvm.ClassFile
def u (s : String) : CpInfo := .utf8 (stringToUtf16 s)
/-- a pool by its gaps: so many unusable entries, then the entry; so many at the end -/
def gap : Nat → List CpInfo → List CpInfo
  | 0, r => r
  | n + 1, r => .unusable :: gap n r
def poolList (es : List (Nat × CpInfo)) (last : Nat) : List CpInfo := es.foldr (fun e r => gap e.1 (e.2 :: r)) (gap last [])
def pool (es : List (Nat × CpInfo)) (last : Nat) : Array CpInfo := ⟨poolList es last⟩
def fileOf (pool : Array CpInfo) (this : Nat) (attrs : Array Attribute := #[]) (ms : Array MethodInfo := #[]) (fl : Nat := 33) (sup : Nat := 0) (ifs : Array Nat := #[]) (fds : Array FieldInfo := #[]) : ClassFile where
  minorVersion := 0
  majorVersion := 65
  constantPool := pool
  accessFlags := fl
  thisClass := this
  superClass := sup
  interfaces := ifs
  fields := fds
  methods := ms
  attributes := attrs
def plain (name : String) (sup : Option ClassId) : Class where
  name := name
  kind := .ordinary
  loader := none
  accessFlags := 33
  super := sup
  interfaces := #[]
  cf := none
  fields := #[]
  methods := #[]
  instanceTypes := #[]
  staticTypes := #[]
  resolved := #[]
  callSites := []
  init := .initialized
  statics := none
  mirror := none

def pool0 : Array CpInfo := pool [(5, u "<init>"), (0, u "()V"), (1, .class_ 10), (1, u "java/lang/Object")] 113

def k0c0 : Code := { maxStack := 0, maxLocals := 1, code := object_method_1_code, exceptionTable := #[], attributes := #[] }
def k0m0 : Method := { name := "<init>", desc := "()V", sig := { parameters := [], returnType := none }, accessFlags := 1, code := some k0c0 }
/-- java/lang/Object -/
def k0 : Class := { plain "java/lang/Object" none with
  accessFlags := 33
  interfaces := #[]
  cf := some (fileOf pool0 8 #[] #[{ accessFlags := 1, nameIndex := 5, descriptorIndex := 6, attributes := #[] }] 33 0 #[] #[])
  fields := #[]
  methods := #[k0m0]
  instanceTypes := #[]
  staticTypes := #[]
  resolved := Array.replicate 124 none
  statics := none }

def pool1 : Array CpInfo := pool [(2, .class_ 4), (0, .nameAndType 5 6), (0, u "java/lang/Object"), (0, u "<init>"), (0, u "()V"), (0, .class_ 8), (0, u "com/example/loadstone/loadstone/ByteChunks"), (0, .methodref 7 3), (0, .integer 2147483647), (0, .methodref 7 12), (0, .nameAndType 13 14), (0, u "put"), (0, u "(B)V"), (0, .integer 65535), (0, .methodref 7 17), (0, .nameAndType 18 19), (0, u "release"), (0, u "(I)V"), (0, .methodref 7 21), (0, .nameAndType 22 23), (0, u "length"), (0, u "()I"), (0, .methodref 7 25), (0, .nameAndType 26 27), (0, u "at"), (0, u "(I)B"), (0, .class_ 29), (0, u "com/example/loadstone/loadstone/ByteChunksReleasePinLaw"), (2, u "law"), (0, u "(IIIIII)Z")] 3

def k1m0 : Method := { name := "<init>", desc := "()V", sig := { parameters := [], returnType := none }, accessFlags := 1, code := none }
def k1c1 : Code := { maxStack := 3, maxLocals := 14, code := code, exceptionTable := #[], attributes := #[] }
def k1m1 : Method := { name := "law", desc := "(IIIIII)Z", sig := { parameters := [.int, .int, .int, .int, .int, .int], returnType := some .boolean }, accessFlags := 9, code := some k1c1 }
/-- com/example/loadstone/loadstone/ByteChunksReleasePinLaw -/
def k1 : Class := { plain "com/example/loadstone/loadstone/ByteChunksReleasePinLaw" (some 0) with
  accessFlags := 49
  interfaces := #[]
  cf := some (fileOf pool1 28 #[] #[{ accessFlags := 1, nameIndex := 5, descriptorIndex := 6, attributes := #[] }, { accessFlags := 9, nameIndex := 32, descriptorIndex := 33, attributes := #[] }] 49 2 #[] #[])
  fields := #[]
  methods := #[k1m0, k1m1]
  instanceTypes := #[]
  staticTypes := #[]
  resolved := Array.replicate 37 none
  statics := none }

def pool2 : Array CpInfo := pool [(1, .class_ 2), (0, u "com/example/loadstone/loadstone/ByteChunks"), (2, .methodref 6 7), (0, .class_ 8), (0, .nameAndType 9 10), (0, u "java/lang/Object"), (0, u "<init>"), (0, u "()V"), (0, .class_ 12), (0, u "[B"), (0, .fieldref 1 14), (0, .nameAndType 15 16), (0, u "chunks"), (0, u "[[B"), (0, .fieldref 1 18), (0, .nameAndType 19 20), (0, u "length"), (0, u "I"), (0, .fieldref 1 22), (0, .nameAndType 23 20), (0, u "released"), (9, .integer 65535), (0, .integer 65536), (25, u "put"), (0, u "(B)V"), (2, u "at"), (0, u "(I)B"), (0, u "CHUNK_BITS"), (2, u "CHUNK_MASK"), (0, u "MAX_BYTES"), (3, u "()I"), (0, u "release"), (0, u "(I)V")] 12

def k2c0 : Code := { maxStack := 2, maxLocals := 1, code := prog_8_method_1_code, exceptionTable := #[], attributes := #[] }
def k2m0 : Method := { name := "<init>", desc := "()V", sig := { parameters := [], returnType := none }, accessFlags := 0, code := some k2c0 }
def k2c1 : Code := { maxStack := 1, maxLocals := 1, code := prog_8_method_2_code, exceptionTable := #[], attributes := #[] }
def k2m1 : Method := { name := "length", desc := "()I", sig := { parameters := [], returnType := some .int }, accessFlags := 0, code := some k2c1 }
def k2c2 : Code := { maxStack := 3, maxLocals := 3, code := prog_8_method_3_code, exceptionTable := #[], attributes := #[] }
def k2m2 : Method := { name := "release", desc := "(I)V", sig := { parameters := [.int], returnType := none }, accessFlags := 0, code := some k2c2 }
def k2c3 : Code := { maxStack := 3, maxLocals := 2, code := prog_8_method_5_code, exceptionTable := #[], attributes := #[] }
def k2m3 : Method := { name := "at", desc := "(I)B", sig := { parameters := [.int], returnType := some .byte }, accessFlags := 0, code := some k2c3 }
def k2c4 : Code := { maxStack := 4, maxLocals := 3, code := prog_8_method_8_code, exceptionTable := #[], attributes := #[] }
def k2m4 : Method := { name := "put", desc := "(B)V", sig := { parameters := [.byte], returnType := none }, accessFlags := 0, code := some k2c4 }
/-- com/example/loadstone/loadstone/ByteChunks -/
def k2 : Class := { plain "com/example/loadstone/loadstone/ByteChunks" (some 0) with
  accessFlags := 48
  interfaces := #[]
  cf := some (fileOf pool2 1 #[] #[{ accessFlags := 0, nameIndex := 9, descriptorIndex := 10, attributes := #[] }, { accessFlags := 0, nameIndex := 19, descriptorIndex := 74, attributes := #[] }, { accessFlags := 0, nameIndex := 75, descriptorIndex := 76, attributes := #[] }, { accessFlags := 0, nameIndex := 64, descriptorIndex := 65, attributes := #[] }, { accessFlags := 0, nameIndex := 60, descriptorIndex := 61, attributes := #[] }] 48 6 #[] #[{ accessFlags := 26, nameIndex := 66, descriptorIndex := 20, attributes := #[] }, { accessFlags := 26, nameIndex := 69, descriptorIndex := 20, attributes := #[] }, { accessFlags := 26, nameIndex := 70, descriptorIndex := 20, attributes := #[] }, { accessFlags := 2, nameIndex := 15, descriptorIndex := 16, attributes := #[] }, { accessFlags := 2, nameIndex := 19, descriptorIndex := 20, attributes := #[] }, { accessFlags := 2, nameIndex := 23, descriptorIndex := 20, attributes := #[] }])
  fields := #[{ name := "CHUNK_BITS", type := .int, accessFlags := 26, slot := 0, constantValue := 0 }, { name := "CHUNK_MASK", type := .int, accessFlags := 26, slot := 1, constantValue := 0 }, { name := "MAX_BYTES", type := .int, accessFlags := 26, slot := 2, constantValue := 0 }, { name := "chunks", type := (.array (.array .byte)), accessFlags := 2, slot := 0, constantValue := 0 }, { name := "length", type := .int, accessFlags := 2, slot := 1, constantValue := 0 }, { name := "released", type := .int, accessFlags := 2, slot := 2, constantValue := 0 }]
  methods := #[k2m0, k2m1, k2m2, k2m3, k2m4]
  instanceTypes := #[(.array (.array .byte)), .int, .int]
  staticTypes := #[.int, .int, .int]
  resolved := Array.replicate 89 none
  statics := none }

def pool3 : Array CpInfo := pool [(1, u "java/lang/Cloneable"), (0, .class_ 1), (0, u "java/lang/Object"), (0, .class_ 3)] 3

/-- java/lang/Cloneable -/
def k3 : Class := { plain "java/lang/Cloneable" (some 0) with
  accessFlags := 1537
  interfaces := #[]
  cf := some (fileOf pool3 2 #[] #[] 1537 4 #[] #[])
  fields := #[]
  methods := #[]
  instanceTypes := #[]
  staticTypes := #[]
  resolved := Array.replicate 8 none
  statics := none }

def pool4 : Array CpInfo := pool [(1, u "java/io/Serializable"), (0, .class_ 1), (0, u "java/lang/Object"), (0, .class_ 3)] 3

/-- java/io/Serializable -/
def k4 : Class := { plain "java/io/Serializable" (some 0) with
  accessFlags := 1537
  interfaces := #[]
  cf := some (fileOf pool4 2 #[] #[] 1537 4 #[] #[])
  fields := #[]
  methods := #[]
  instanceTypes := #[]
  staticTypes := #[]
  resolved := Array.replicate 8 none
  statics := none }

/-- the primitive byte -/
def k5 : Class := { plain "byte" none with kind := .primitive 'B', accessFlags := 0x411 }
/-- [B -/
def k6 : Class := { plain "[B" (some 0) with kind := .array 5 .byte, interfaces := #[3, 4], accessFlags := 1041 }

/-- the primitive int -/
def k7 : Class := { plain "int" none with kind := .primitive 'I', accessFlags := 0x411 }
/-- [I -/
def k8 : Class := { plain "[I" (some 0) with kind := .array 7 .int, interfaces := #[3, 4], accessFlags := 1041 }

def heap : Heap := #[]
/-- [[B -/
def k9 : Class := { plain "[[B" (some 0) with kind := .array 6 (.array .byte), interfaces := #[3, 4], accessFlags := 1041 }
def classes : Array Class := #[k0, k1, k2, k3, k4, k5, k6, k7, k8, k9]
def interned : List (Array UInt16 × Addr) := []
def slotsUsed : Nat := 0
def theMethod : MethodId := ⟨1, 1⟩
def args0 : Array Value := #[.int 5, .int 7, .int 9, .int 2, .int 1, .int 3]
def aboutOver (below : List Frame) : State where
  vm := { classes := classes, interned := interned.toArray }
  heap := heap
  slotsUsed := slotsUsed
  threads := #[{ frames := .invoking theMethod args0 :: below }]
def below0 : List Frame := [.native { method := ⟨0, 0⟩, args := #[] }]
def about1 : State := aboutOver below0
def p0 : Program := .bare "" "" ""
def e0 : Env := launch0.env 0 0 0
theorem w_frames : about1.frames = Frame.invoking theMethod args0 :: below0 := rfl
set_option maxRecDepth 65536 in
theorem w_args : argsFit about1.vm theMethod args0 = true := by decide +kernel
set_option maxRecDepth 65536 in
theorem w_heap : heapFits about1 = true := by decide +kernel
set_option maxRecDepth 65536 in
theorem w_runnable : about1.curStatus? = some .runnable := by decide +kernel
set_option maxRecDepth 65536 in
theorem w_alone : about1.alone = true := by decide +kernel
set_option maxRecDepth 65536 in
theorem w_named : about1.methodNamed? x = some theMethod := by decide +kernel
set_option maxRecDepth 65536 in
theorem w_hears : about1.hears theMethod below0 = true := by decide +kernel
set_option maxRecDepth 65536 in
theorem w_ripe : about1.ripe theMethod args0 below0 = true := by decide +kernel
theorem w_running : about1.status = .running := rfl
set_option maxRecDepth 65536 in
theorem w_room : about1.hasRoom e0.platform room_1 = true :=
  launch0.hasRoom_least _ room_1 (by decide +kernel) (by decide +kernel) (by decide +kernel) (by decide +kernel) (by decide +kernel) (by decide +kernel)
theorem allAtoms_all (ts : List Jvm.Cond) (a : Array Jvm.Value) (st : Jvm.State) : (allAtoms ts).before a st = ts.all (fun c => c.before a st) := by
  induction ts with
  | nil => rfl
  | cons c t ih =>
    show (Jvm.Cond.and c (allAtoms t)).before a st = _
    rw [Jvm.Cond.before_and, ih, List.all_cons]
def words1 : List Jvm.Cond := Jvm.Cond.code x code maxLocals ret :: tables_1
/-- a 'code' word, met by the world's own term for the bytes: nothing is compared byte by byte -/
theorem code_word {y : MethodName} {bytes : ByteArray} {mx : Nat} {rt : Option FieldType} {a : Array Value} {s : State} {m : MethodId} {meth : Method} {c : Code} (h1 : s.methodNamed? y = some m) (h2 : s.vm.method? m = some meth) (h3 : meth.code = some c) (h4 : c.code = bytes)
    (h5 : (c.maxLocals == mx && c.exceptionTable.isEmpty && decide (c.maxStack ≤ mostOperands) && decide (meth.sig.returnType = rt) && !meth.locks && decide (parseMethodDescriptor y.desc = some meth.sig)) = true) : (Jvm.Cond.code y bytes mx rt).before a s = true := by
  simp only [Bool.and_eq_true, beq_iff_eq, Bool.not_eq_true', decide_eq_true_eq] at h5
  obtain ⟨⟨⟨⟨⟨g1, g2⟩, g3⟩, g4⟩, g5⟩, g6⟩ := h5
  simp [Cond.before, Cond.holds, Cond.value, h1, h2, h3, h4, g1, g2, g3, g4, g5, g6]
def isCode : Jvm.Cond → Bool
  | .code _ _ _ _ => true
  | _ => false
theorem all_split {L : List Jvm.Cond} {P : Jvm.Cond → Bool} (h1 : L.all (fun c => isCode c || P c) = true) (h2 : ∀ c ∈ L.filter isCode, P c = true) : L.all P = true := by
  refine List.all_eq_true.mpr fun c hc => ?_
  have h := List.all_eq_true.mp h1 c hc
  rcases Bool.eq_false_or_eq_true (isCode c) with hi | hi
  · exact h2 c (List.mem_filter.mpr ⟨hc, hi⟩)
  · simpa [hi] using h
set_option maxRecDepth 65536 in
theorem w_c0 : (Jvm.Cond.code x code maxLocals ret).before args0 about1 = true := code_word (m := ⟨1, 1⟩) (meth := k1m1) (c := k1c1) (by decide +kernel) rfl rfl rfl (by decide +kernel)
set_option maxRecDepth 65536 in
theorem w_c1 : (Jvm.Cond.code ({ cls := "com/example/loadstone/loadstone/ByteChunks", name := "<init>", desc := "()V" } : Jvm.MethodName) prog_8_method_1_code (1 : Nat) (Option.none : Option Jvm.ClassFile.FieldType)).before args0 about1 = true := code_word (m := ⟨2, 0⟩) (meth := k2m0) (c := k2c0) (by decide +kernel) rfl rfl rfl (by decide +kernel)
set_option maxRecDepth 65536 in
theorem w_c2 : (Jvm.Cond.code ({ cls := "java/lang/Object", name := "<init>", desc := "()V" } : Jvm.MethodName) object_method_1_code (1 : Nat) (Option.none : Option Jvm.ClassFile.FieldType)).before args0 about1 = true := code_word (m := ⟨0, 0⟩) (meth := k0m0) (c := k0c0) (by decide +kernel) rfl rfl rfl (by decide +kernel)
set_option maxRecDepth 65536 in
theorem w_c3 : (Jvm.Cond.code ({ cls := "com/example/loadstone/loadstone/ByteChunks", name := "put", desc := "(B)V" } : Jvm.MethodName) prog_8_method_8_code (3 : Nat) (Option.none : Option Jvm.ClassFile.FieldType)).before args0 about1 = true := code_word (m := ⟨2, 4⟩) (meth := k2m4) (c := k2c4) (by decide +kernel) rfl rfl rfl (by decide +kernel)
set_option maxRecDepth 65536 in
theorem w_c4 : (Jvm.Cond.code ({ cls := "com/example/loadstone/loadstone/ByteChunks", name := "release", desc := "(I)V" } : Jvm.MethodName) prog_8_method_3_code (3 : Nat) (Option.none : Option Jvm.ClassFile.FieldType)).before args0 about1 = true := code_word (m := ⟨2, 2⟩) (meth := k2m2) (c := k2c2) (by decide +kernel) rfl rfl rfl (by decide +kernel)
set_option maxRecDepth 65536 in
theorem w_c5 : (Jvm.Cond.code ({ cls := "com/example/loadstone/loadstone/ByteChunks", name := "length", desc := "()I" } : Jvm.MethodName) prog_8_method_2_code (1 : Nat) (Option.some Jvm.ClassFile.FieldType.int)).before args0 about1 = true := code_word (m := ⟨2, 1⟩) (meth := k2m1) (c := k2c1) (by decide +kernel) rfl rfl rfl (by decide +kernel)
set_option maxRecDepth 65536 in
theorem w_c6 : (Jvm.Cond.code ({ cls := "com/example/loadstone/loadstone/ByteChunks", name := "at", desc := "(I)B" } : Jvm.MethodName) prog_8_method_5_code (2 : Nat) (Option.some Jvm.ClassFile.FieldType.byte)).before args0 about1 = true := code_word (m := ⟨2, 3⟩) (meth := k2m3) (c := k2c3) (by decide +kernel) rfl rfl rfl (by decide +kernel)
def codes1 : List Jvm.Cond := [Jvm.Cond.code x code maxLocals ret, Jvm.Cond.code ({ cls := "com/example/loadstone/loadstone/ByteChunks", name := "<init>", desc := "()V" } : Jvm.MethodName) prog_8_method_1_code (1 : Nat) (Option.none : Option Jvm.ClassFile.FieldType), Jvm.Cond.code ({ cls := "java/lang/Object", name := "<init>", desc := "()V" } : Jvm.MethodName) object_method_1_code (1 : Nat) (Option.none : Option Jvm.ClassFile.FieldType), Jvm.Cond.code ({ cls := "com/example/loadstone/loadstone/ByteChunks", name := "put", desc := "(B)V" } : Jvm.MethodName) prog_8_method_8_code (3 : Nat) (Option.none : Option Jvm.ClassFile.FieldType), Jvm.Cond.code ({ cls := "com/example/loadstone/loadstone/ByteChunks", name := "release", desc := "(I)V" } : Jvm.MethodName) prog_8_method_3_code (3 : Nat) (Option.none : Option Jvm.ClassFile.FieldType), Jvm.Cond.code ({ cls := "com/example/loadstone/loadstone/ByteChunks", name := "length", desc := "()I" } : Jvm.MethodName) prog_8_method_2_code (1 : Nat) (Option.some Jvm.ClassFile.FieldType.int), Jvm.Cond.code ({ cls := "com/example/loadstone/loadstone/ByteChunks", name := "at", desc := "(I)B" } : Jvm.MethodName) prog_8_method_5_code (2 : Nat) (Option.some Jvm.ClassFile.FieldType.byte)]
set_option maxRecDepth 65536 in
theorem codes_eq : words1.filter isCode = codes1 := rfl
theorem w_codes : ∀ c ∈ words1.filter isCode, c.before args0 about1 = true := by
  rw [codes_eq]
  intro c hc
  simp only [codes1, List.mem_cons, List.not_mem_nil, or_false] at hc
  rcases hc with rfl | rfl | rfl | rfl | rfl | rfl | rfl
  · exact w_c0
  · exact w_c1
  · exact w_c2
  · exact w_c3
  · exact w_c4
  · exact w_c5
  · exact w_c6
set_option maxRecDepth 65536 in
theorem w_t1 : (words1.take 24).all (fun c => isCode c || c.before args0 about1) = true := by decide +kernel
set_option maxRecDepth 65536 in
theorem w_t2 : (words1.drop 24).all (fun c => isCode c || c.before args0 about1) = true := by decide +kernel
theorem w_tables : (allAtoms (Jvm.Cond.code x code maxLocals ret :: tables_1)).before args0 about1 = true := by
  rw [allAtoms_all]
  show words1.all (fun c => c.before args0 about1) = true
  refine all_split ?_ w_codes
  rw [← List.take_append_drop 24 words1, List.all_append, w_t1, w_t2]
  rfl
set_option maxRecDepth 65536 in
theorem w_case : (Jvm.Cond.and given_1 narrow_1).before args0 about1 = true := by decide +kernel
theorem w_applies : (headSpec (Jvm.Cond.code x code maxLocals ret :: tables_1) room_1).applies x e0.platform about1 = true :=
  (Spec.applies_iff w_frames).mpr ⟨w_running, w_runnable, w_alone, w_named, w_hears, w_ripe, w_room, w_tables⟩
theorem atStart : AtStart classFile x code maxLocals ret World_1 tables_1 room_1 Calls_1 rest_1 Pre_1 launch0 p0 e0 about1 theMethod args0 below0 :=
  ⟨lists_1, trivial, launch0.admits_env _ _ _, launch0.least_env, fairChoices_fair.cas, fairChoices_fair.clock, w_frames, w_args, w_heap, w_applies, trivial, trivial, w_case⟩
end start1
theorem witness_1 : WitnessClaimed_1 := ⟨start1.p0, start1.e0, start1.about1, start1.theMethod, start1.args0, start1.below0, start1.atStart⟩
end Jvm.Pilot.@@N@@
