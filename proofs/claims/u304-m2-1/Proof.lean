import JvmDerived
import JvmDerived.Pilot.@@N@@Statement
import JvmDerived.Pilot.@@N@@Code
set_option linter.unusedVariables false
set_option linter.unusedSimpArgs false
@@BLOCK:NumsL.lean.txt@@
namespace Jvm.RoadKit
open Sem ClassFile Op Lib Jvm.Stand Jvm.Free Jvm.LawKit
section New
variable {p : Program} {l : Launch} {e : Env} {R : Room} {s : State} {m : MethodId} {args : Array Value} {below : List Frame} {meth : Method} {c : Code} {T : State} {locs : List Loc} {cells slots : Nat}
theorem retI (X : Stand p l e R s m args below meth c T locs cells slots) (hx : p.tables.exec = Jvm.exec) {pc : Nat} {Ls : Array Slot} {z : Int32} {rest : List Value} (hret : meth.sig.returnType = some .int) (hd : decode c.code pc = .ok (.ireturn, 1)) {fs : List Frame}
    (hl : ∀ (f : JFrame) (acts : List Action), f.method = m → f.locked = none → f.entered = [] → (doReturn e (T.setTop f) acts (some (.int z))).1 = T.setFrames fs) : Steps p.tables e below (T.setTop (mkF m pc Ls (.int z :: rest))) (T.setFrames fs) := by
  have hm' : T.vm.method? m = some meth := X.method'
  have hn : narrow .int (.int z) = .int z := rfl
  show Steps p.tables e below (T.setTop { method := m, pc := pc, locals := Ls, stack := _ :: rest, locked := none }) _
  jvm_step X.here [X.here.top, hx, hd, hm', hret, hn]
  first | (intro acts; rw [hl _ acts rfl rfl rfl]) | rw [hl _ _ rfl rfl rfl]
  exact Steps.refl _
end New
end Jvm.RoadKit
namespace Jvm.Pilot.@@N@@
open Jvm Jvm.ClassFile Sem Op Lib Jvm.Free Jvm.Stand Jvm.LawKit Jvm.RoadKit Bundle Jvm.Pilot.@@N@@.Jvm.D
theorem own_nz_J {x : Int64} (h : (0 : Int64) < x) : ¬ (x = (0 : Int64)) := by rintro rfl; exact absurd h (by decide)
theorem own_nz_I {x : Int32} (h : (0 : Int32) < x) : ¬ (x = (0 : Int32)) := by rintro rfl; exact absurd h (by decide)
theorem own_fld {s : State} {args : Array Value} {tt : Term} {a : Addr} {C n d : String} {k : Int32} (ev : tt.eval args s none [] s = some (.ref a)) (h : (Jvm.Cond.eq (.field tt C n d) (.int k)).value args s none s [] = some true) : Fld s s.heap a C n d (.int k) := by
  obtain ⟨u, v, hu, hv, k1, k2⟩ := cmp_v (Or.inl h)
  have hv' : v = .int k := (Option.some.inj (hv.symm.trans (Term.int_eval k)))
  subst hv'
  obtain ⟨z, rfl⟩ := k2
  have hz := gotT (Cond.eq_ints hu hv) h
  subst hz
  exact Fld.start (by rw [← fld_at ev]; exact hu)
def own_at (vs : List Int32) (j : Int32) : Int32 := vs.getD j.toNatClampNeg 0
def own_atL (vs : List Int64) (j : Int32) : Int64 := vs.getD j.toNatClampNeg 0
theorem own_getD (vs : List Int32) (j : Int32) : (vs.map Value.int).getD j.toNatClampNeg (.int (0 : Int32)) = .int (own_at vs j) := by
  unfold own_at
  generalize j.toNatClampNeg = k
  induction vs generalizing k with
  | nil => rfl
  | cons a t ih => cases k with
    | zero => rfl
    | succ k => simpa using ih k
theorem own_getDL (vs : List Int64) (j : Int32) : (vs.map Value.long).getD j.toNatClampNeg (.long (0 : Int64)) = .long (own_atL vs j) := by
  unfold own_atL
  generalize j.toNatClampNeg = k
  induction vs generalizing k with
  | nil => rfl
  | cons a t ih => cases k with
    | zero => rfl
    | succ k => simpa using ih k
theorem d1_0 : decode method_2_code 0 = .ok (.iload_n 0, 1) := by decide +kernel
theorem d1_1 : decode method_2_code 1 = .ok (.ifCond .ne 7, 3) := by decide +kernel
theorem d1_4 : decode method_2_code 4 = .ok (.getstatic 7, 3) := by decide +kernel
theorem d1_7 : decode method_2_code 7 = .ok (.areturn, 1) := by decide +kernel
theorem d1_8 : decode method_2_code 8 = .ok (.iload_n 0, 1) := by decide +kernel
theorem d1_9 : decode method_2_code 9 = .ok (.iconst 1, 1) := by decide +kernel
theorem d1_10 : decode method_2_code 10 = .ok (.if_icmp .ne 7, 3) := by decide +kernel
theorem d1_13 : decode method_2_code 13 = .ok (.getstatic 13, 3) := by decide +kernel
theorem d1_16 : decode method_2_code 16 = .ok (.areturn, 1) := by decide +kernel
theorem d1_17 : decode method_2_code 17 = .ok (.iload_n 0, 1) := by decide +kernel
theorem d1_18 : decode method_2_code 18 = .ok (.iconst 2, 1) := by decide +kernel
theorem d1_19 : decode method_2_code 19 = .ok (.if_icmp .ne 7, 3) := by decide +kernel
theorem d1_22 : decode method_2_code 22 = .ok (.getstatic 16, 3) := by decide +kernel
theorem d1_25 : decode method_2_code 25 = .ok (.areturn, 1) := by decide +kernel
theorem d1_26 : decode method_2_code 26 = .ok (.iload_n 0, 1) := by decide +kernel
theorem d1_27 : decode method_2_code 27 = .ok (.iconst 3, 1) := by decide +kernel
theorem d1_28 : decode method_2_code 28 = .ok (.if_icmp .ne 7, 3) := by decide +kernel
theorem d1_31 : decode method_2_code 31 = .ok (.getstatic 19, 3) := by decide +kernel
theorem d1_34 : decode method_2_code 34 = .ok (.areturn, 1) := by decide +kernel
theorem d1_35 : decode method_2_code 35 = .ok (.iload_n 0, 1) := by decide +kernel
theorem d1_36 : decode method_2_code 36 = .ok (.iconst 4, 1) := by decide +kernel
theorem d1_37 : decode method_2_code 37 = .ok (.if_icmp .ne 7, 3) := by decide +kernel
theorem d1_40 : decode method_2_code 40 = .ok (.getstatic 22, 3) := by decide +kernel
theorem d1_43 : decode method_2_code 43 = .ok (.areturn, 1) := by decide +kernel
theorem d1_44 : decode method_2_code 44 = .ok (.iload_n 0, 1) := by decide +kernel
theorem d1_45 : decode method_2_code 45 = .ok (.iconst 5, 1) := by decide +kernel
theorem d1_46 : decode method_2_code 46 = .ok (.if_icmp .ne 7, 3) := by decide +kernel
theorem d1_49 : decode method_2_code 49 = .ok (.getstatic 25, 3) := by decide +kernel
theorem d1_52 : decode method_2_code 52 = .ok (.areturn, 1) := by decide +kernel
theorem d1_53 : decode method_2_code 53 = .ok (.iload_n 0, 1) := by decide +kernel
theorem d1_54 : decode method_2_code 54 = .ok (.bipush 6, 2) := by decide +kernel
theorem d1_56 : decode method_2_code 56 = .ok (.if_icmp .ne 7, 3) := by decide +kernel
theorem d1_59 : decode method_2_code 59 = .ok (.getstatic 28, 3) := by decide +kernel
theorem d1_62 : decode method_2_code 62 = .ok (.areturn, 1) := by decide +kernel
theorem d1_63 : decode method_2_code 63 = .ok (.iload_n 0, 1) := by decide +kernel
theorem d1_64 : decode method_2_code 64 = .ok (.bipush 7, 2) := by decide +kernel
theorem d1_66 : decode method_2_code 66 = .ok (.if_icmp .ne 7, 3) := by decide +kernel
theorem d1_69 : decode method_2_code 69 = .ok (.getstatic 31, 3) := by decide +kernel
theorem d1_72 : decode method_2_code 72 = .ok (.areturn, 1) := by decide +kernel
theorem d1_73 : decode method_2_code 73 = .ok (.iload_n 0, 1) := by decide +kernel
theorem d1_74 : decode method_2_code 74 = .ok (.bipush 8, 2) := by decide +kernel
theorem d1_76 : decode method_2_code 76 = .ok (.if_icmp .ne 7, 3) := by decide +kernel
theorem d1_79 : decode method_2_code 79 = .ok (.getstatic 34, 3) := by decide +kernel
theorem d1_82 : decode method_2_code 82 = .ok (.areturn, 1) := by decide +kernel
theorem d1_83 : decode method_2_code 83 = .ok (.iload_n 0, 1) := by decide +kernel
theorem d1_84 : decode method_2_code 84 = .ok (.bipush 9, 2) := by decide +kernel
theorem d1_86 : decode method_2_code 86 = .ok (.if_icmp .ne 7, 3) := by decide +kernel
theorem d1_89 : decode method_2_code 89 = .ok (.getstatic 37, 3) := by decide +kernel
theorem d1_92 : decode method_2_code 92 = .ok (.areturn, 1) := by decide +kernel
theorem d1_93 : decode method_2_code 93 = .ok (.iload_n 0, 1) := by decide +kernel
theorem d1_94 : decode method_2_code 94 = .ok (.bipush 10, 2) := by decide +kernel
theorem d1_96 : decode method_2_code 96 = .ok (.if_icmp .ne 7, 3) := by decide +kernel
theorem d1_99 : decode method_2_code 99 = .ok (.getstatic 40, 3) := by decide +kernel
theorem d1_102 : decode method_2_code 102 = .ok (.areturn, 1) := by decide +kernel
theorem d1_103 : decode method_2_code 103 = .ok (.iload_n 0, 1) := by decide +kernel
theorem d1_104 : decode method_2_code 104 = .ok (.bipush 11, 2) := by decide +kernel
theorem d1_106 : decode method_2_code 106 = .ok (.if_icmp .ne 7, 3) := by decide +kernel
theorem d1_109 : decode method_2_code 109 = .ok (.getstatic 43, 3) := by decide +kernel
theorem d1_112 : decode method_2_code 112 = .ok (.areturn, 1) := by decide +kernel
theorem d1_113 : decode method_2_code 113 = .ok (.iload_n 0, 1) := by decide +kernel
theorem d1_114 : decode method_2_code 114 = .ok (.bipush 12, 2) := by decide +kernel
theorem d1_116 : decode method_2_code 116 = .ok (.if_icmp .ne 7, 3) := by decide +kernel
theorem d1_119 : decode method_2_code 119 = .ok (.getstatic 46, 3) := by decide +kernel
theorem d1_122 : decode method_2_code 122 = .ok (.areturn, 1) := by decide +kernel
theorem d1_123 : decode method_2_code 123 = .ok (.iload_n 0, 1) := by decide +kernel
theorem d1_124 : decode method_2_code 124 = .ok (.bipush 13, 2) := by decide +kernel
theorem d1_126 : decode method_2_code 126 = .ok (.if_icmp .ne 7, 3) := by decide +kernel
theorem d1_129 : decode method_2_code 129 = .ok (.getstatic 49, 3) := by decide +kernel
theorem d1_132 : decode method_2_code 132 = .ok (.areturn, 1) := by decide +kernel
theorem d1_133 : decode method_2_code 133 = .ok (.iload_n 0, 1) := by decide +kernel
theorem d1_134 : decode method_2_code 134 = .ok (.bipush 14, 2) := by decide +kernel
theorem d1_136 : decode method_2_code 136 = .ok (.if_icmp .ne 7, 3) := by decide +kernel
theorem d1_139 : decode method_2_code 139 = .ok (.getstatic 52, 3) := by decide +kernel
theorem d1_142 : decode method_2_code 142 = .ok (.areturn, 1) := by decide +kernel
theorem d1_143 : decode method_2_code 143 = .ok (.getstatic 55, 3) := by decide +kernel
theorem d1_146 : decode method_2_code 146 = .ok (.areturn, 1) := by decide +kernel
theorem pn_1 : plainName "com/example/boundsmith/boundsmith/internal/TimeTypeRepeatsPinLaw" = true := by first | (simp [plainName, overriddenIn]; done) | decide +kernel
theorem ef_1 (m : MethodId) (x0 : Int32) : entryFrame m #[(.int x0)] 1 = mkF m 0 #[.val (.int x0)] [] := by first | (simp [entryFrame, mkF, argsToLocals, Value.category]; done) | rfl
def f1 (p1 : Int32) (w_DATE : Addr) (w_CALENDAR : Addr) (w_INSTANT : Addr) (w_LOCAL_DATE : Addr) (w_LOCAL_DATE_TIME : Addr) (w_LOCAL_TIME : Addr) (w_MONTH_DAY : Addr) (w_OFFSET_DATE_TIME : Addr) (w_OFFSET_TIME : Addr) (w_YEAR : Addr) (w_YEAR_MONTH : Addr) (w_ZONED_DATE_TIME : Addr) (w_HIJRAH_DATE : Addr) (w_JAPANESE_DATE : Addr) (w_MINGUO_DATE : Addr) (w_THAI_BUDDHIST_DATE : Addr) : Addr := (if p1 = (0 : Int32) then w_DATE else (if p1 = (1 : Int32) then w_CALENDAR else (if p1 = (2 : Int32) then w_INSTANT else (if p1 = (3 : Int32) then w_LOCAL_DATE else (if p1 = (4 : Int32) then w_LOCAL_DATE_TIME else (if p1 = (5 : Int32) then w_LOCAL_TIME else (if p1 = (6 : Int32) then w_MONTH_DAY else (if p1 = (7 : Int32) then w_OFFSET_DATE_TIME else (if p1 = (8 : Int32) then w_OFFSET_TIME else (if p1 = (9 : Int32) then w_YEAR else (if p1 = (10 : Int32) then w_YEAR_MONTH else (if p1 = (11 : Int32) then w_ZONED_DATE_TIME else (if p1 = (12 : Int32) then w_HIJRAH_DATE else (if p1 = (13 : Int32) then w_JAPANESE_DATE else (if p1 = (14 : Int32) then w_MINGUO_DATE else w_THAI_BUDDHIST_DATE)))))))))))))))
def Q1 (Z : State) (p1 : Int32) (w_DATE : Addr) (w_CALENDAR : Addr) (w_INSTANT : Addr) (w_LOCAL_DATE : Addr) (w_LOCAL_DATE_TIME : Addr) (w_LOCAL_TIME : Addr) (w_MONTH_DAY : Addr) (w_OFFSET_DATE_TIME : Addr) (w_OFFSET_TIME : Addr) (w_YEAR : Addr) (w_YEAR_MONTH : Addr) (w_ZONED_DATE_TIME : Addr) (w_HIJRAH_DATE : Addr) (w_JAPANESE_DATE : Addr) (w_MINGUO_DATE : Addr) (w_THAI_BUDDHIST_DATE : Addr) (h0 : Heap) (n0 : Nat) (v : Option Value) (h : Heap) (L : List Loc) : Prop := v = some (.ref (f1 p1 w_DATE w_CALENDAR w_INSTANT w_LOCAL_DATE w_LOCAL_DATE_TIME w_LOCAL_TIME w_MONTH_DAY w_OFFSET_DATE_TIME w_OFFSET_TIME w_YEAR w_YEAR_MONTH w_ZONED_DATE_TIME w_HIJRAH_DATE w_JAPANESE_DATE w_MINGUO_DATE w_THAI_BUDDHIST_DATE)) ∧ Fr n0 L ∧ h = h0
theorem own_ite {Z : State} {h0 : Heap} {C : String} {c : Prop} [Decidable c] {a b : Addr} (ha : Exa Z h0 a C) (hb : Exa Z h0 b C) : Exa Z h0 (if c then a else b) C := by
  split <;> assumption
theorem own_exa {Z : State} {h0 : Heap} (i : Int32) {w_DATE : Addr} {w_CALENDAR : Addr} {w_INSTANT : Addr} {w_LOCAL_DATE : Addr} {w_LOCAL_DATE_TIME : Addr} {w_LOCAL_TIME : Addr} {w_MONTH_DAY : Addr} {w_OFFSET_DATE_TIME : Addr} {w_OFFSET_TIME : Addr} {w_YEAR : Addr} {w_YEAR_MONTH : Addr} {w_ZONED_DATE_TIME : Addr} {w_HIJRAH_DATE : Addr} {w_JAPANESE_DATE : Addr} {w_MINGUO_DATE : Addr} {w_THAI_BUDDHIST_DATE : Addr} (E_DATE : Exa Z h0 w_DATE "com/example/boundsmith/boundsmith/internal/TimeType") (E_CALENDAR : Exa Z h0 w_CALENDAR "com/example/boundsmith/boundsmith/internal/TimeType") (E_INSTANT : Exa Z h0 w_INSTANT "com/example/boundsmith/boundsmith/internal/TimeType") (E_LOCAL_DATE : Exa Z h0 w_LOCAL_DATE "com/example/boundsmith/boundsmith/internal/TimeType") (E_LOCAL_DATE_TIME : Exa Z h0 w_LOCAL_DATE_TIME "com/example/boundsmith/boundsmith/internal/TimeType") (E_LOCAL_TIME : Exa Z h0 w_LOCAL_TIME "com/example/boundsmith/boundsmith/internal/TimeType") (E_MONTH_DAY : Exa Z h0 w_MONTH_DAY "com/example/boundsmith/boundsmith/internal/TimeType") (E_OFFSET_DATE_TIME : Exa Z h0 w_OFFSET_DATE_TIME "com/example/boundsmith/boundsmith/internal/TimeType") (E_OFFSET_TIME : Exa Z h0 w_OFFSET_TIME "com/example/boundsmith/boundsmith/internal/TimeType") (E_YEAR : Exa Z h0 w_YEAR "com/example/boundsmith/boundsmith/internal/TimeType") (E_YEAR_MONTH : Exa Z h0 w_YEAR_MONTH "com/example/boundsmith/boundsmith/internal/TimeType") (E_ZONED_DATE_TIME : Exa Z h0 w_ZONED_DATE_TIME "com/example/boundsmith/boundsmith/internal/TimeType") (E_HIJRAH_DATE : Exa Z h0 w_HIJRAH_DATE "com/example/boundsmith/boundsmith/internal/TimeType") (E_JAPANESE_DATE : Exa Z h0 w_JAPANESE_DATE "com/example/boundsmith/boundsmith/internal/TimeType") (E_MINGUO_DATE : Exa Z h0 w_MINGUO_DATE "com/example/boundsmith/boundsmith/internal/TimeType") (E_THAI_BUDDHIST_DATE : Exa Z h0 w_THAI_BUDDHIST_DATE "com/example/boundsmith/boundsmith/internal/TimeType") : Exa Z h0 (f1 i w_DATE w_CALENDAR w_INSTANT w_LOCAL_DATE w_LOCAL_DATE_TIME w_LOCAL_TIME w_MONTH_DAY w_OFFSET_DATE_TIME w_OFFSET_TIME w_YEAR w_YEAR_MONTH w_ZONED_DATE_TIME w_HIJRAH_DATE w_JAPANESE_DATE w_MINGUO_DATE w_THAI_BUDDHIST_DATE) "com/example/boundsmith/boundsmith/internal/TimeType" := by
  unfold f1
  exact (own_ite E_DATE (own_ite E_CALENDAR (own_ite E_INSTANT (own_ite E_LOCAL_DATE (own_ite E_LOCAL_DATE_TIME (own_ite E_LOCAL_TIME (own_ite E_MONTH_DAY (own_ite E_OFFSET_DATE_TIME (own_ite E_OFFSET_TIME (own_ite E_YEAR (own_ite E_YEAR_MONTH (own_ite E_ZONED_DATE_TIME (own_ite E_HIJRAH_DATE (own_ite E_JAPANESE_DATE (own_ite E_MINGUO_DATE E_THAI_BUDDHIST_DATE)))))))))))))))
set_option maxRecDepth 65536 in
set_option maxHeartbeats 40000000 in
theorem rm1 (l : Launch) (Z : State) (a0 : Array Value) (hw : ∀ d ∈ tables_1, d.before a0 Z = true) (ws : List Jvm.Cond) (p1 : Int32) (w_DATE : Addr) (w_CALENDAR : Addr) (w_INSTANT : Addr) (w_LOCAL_DATE : Addr) (w_LOCAL_DATE_TIME : Addr) (w_LOCAL_TIME : Addr) (w_MONTH_DAY : Addr) (w_OFFSET_DATE_TIME : Addr) (w_OFFSET_TIME : Addr) (w_YEAR : Addr) (w_YEAR_MONTH : Addr) (w_ZONED_DATE_TIME : Addr) (w_HIJRAH_DATE : Addr) (w_JAPANESE_DATE : Addr) (w_MINGUO_DATE : Addr) (w_THAI_BUDDHIST_DATE : Addr) (h0 : Heap) (n0 : Nat) (Z0 : n0 ≤ h0.size) (S_DATE : Sta Z h0 "com/example/boundsmith/boundsmith/internal/TimeType" "DATE" "Lcom/example/boundsmith/boundsmith/internal/TimeType;" (.ref w_DATE)) (S_CALENDAR : Sta Z h0 "com/example/boundsmith/boundsmith/internal/TimeType" "CALENDAR" "Lcom/example/boundsmith/boundsmith/internal/TimeType;" (.ref w_CALENDAR)) (S_INSTANT : Sta Z h0 "com/example/boundsmith/boundsmith/internal/TimeType" "INSTANT" "Lcom/example/boundsmith/boundsmith/internal/TimeType;" (.ref w_INSTANT)) (S_LOCAL_DATE : Sta Z h0 "com/example/boundsmith/boundsmith/internal/TimeType" "LOCAL_DATE" "Lcom/example/boundsmith/boundsmith/internal/TimeType;" (.ref w_LOCAL_DATE)) (S_LOCAL_DATE_TIME : Sta Z h0 "com/example/boundsmith/boundsmith/internal/TimeType" "LOCAL_DATE_TIME" "Lcom/example/boundsmith/boundsmith/internal/TimeType;" (.ref w_LOCAL_DATE_TIME)) (S_LOCAL_TIME : Sta Z h0 "com/example/boundsmith/boundsmith/internal/TimeType" "LOCAL_TIME" "Lcom/example/boundsmith/boundsmith/internal/TimeType;" (.ref w_LOCAL_TIME)) (S_MONTH_DAY : Sta Z h0 "com/example/boundsmith/boundsmith/internal/TimeType" "MONTH_DAY" "Lcom/example/boundsmith/boundsmith/internal/TimeType;" (.ref w_MONTH_DAY)) (S_OFFSET_DATE_TIME : Sta Z h0 "com/example/boundsmith/boundsmith/internal/TimeType" "OFFSET_DATE_TIME" "Lcom/example/boundsmith/boundsmith/internal/TimeType;" (.ref w_OFFSET_DATE_TIME)) (S_OFFSET_TIME : Sta Z h0 "com/example/boundsmith/boundsmith/internal/TimeType" "OFFSET_TIME" "Lcom/example/boundsmith/boundsmith/internal/TimeType;" (.ref w_OFFSET_TIME)) (S_YEAR : Sta Z h0 "com/example/boundsmith/boundsmith/internal/TimeType" "YEAR" "Lcom/example/boundsmith/boundsmith/internal/TimeType;" (.ref w_YEAR)) (S_YEAR_MONTH : Sta Z h0 "com/example/boundsmith/boundsmith/internal/TimeType" "YEAR_MONTH" "Lcom/example/boundsmith/boundsmith/internal/TimeType;" (.ref w_YEAR_MONTH)) (S_ZONED_DATE_TIME : Sta Z h0 "com/example/boundsmith/boundsmith/internal/TimeType" "ZONED_DATE_TIME" "Lcom/example/boundsmith/boundsmith/internal/TimeType;" (.ref w_ZONED_DATE_TIME)) (S_HIJRAH_DATE : Sta Z h0 "com/example/boundsmith/boundsmith/internal/TimeType" "HIJRAH_DATE" "Lcom/example/boundsmith/boundsmith/internal/TimeType;" (.ref w_HIJRAH_DATE)) (S_JAPANESE_DATE : Sta Z h0 "com/example/boundsmith/boundsmith/internal/TimeType" "JAPANESE_DATE" "Lcom/example/boundsmith/boundsmith/internal/TimeType;" (.ref w_JAPANESE_DATE)) (S_MINGUO_DATE : Sta Z h0 "com/example/boundsmith/boundsmith/internal/TimeType" "MINGUO_DATE" "Lcom/example/boundsmith/boundsmith/internal/TimeType;" (.ref w_MINGUO_DATE)) (S_THAI_BUDDHIST_DATE : Sta Z h0 "com/example/boundsmith/boundsmith/internal/TimeType" "THAI_BUDDHIST_DATE" "Lcom/example/boundsmith/boundsmith/internal/TimeType;" (.ref w_THAI_BUDDHIST_DATE)) :
    MetFree l (⟨"com/example/boundsmith/boundsmith/internal/TimeTypeRepeatsPinLaw", "pick", "(I)Lcom/example/boundsmith/boundsmith/internal/TimeType;"⟩ : MethodName) (head1 (Jvm.Cond.code (⟨"com/example/boundsmith/boundsmith/internal/TimeTypeRepeatsPinLaw", "pick", "(I)Lcom/example/boundsmith/boundsmith/internal/TimeType;"⟩ : MethodName) method_2_code 1 (some (.object "com/example/boundsmith/boundsmith/internal/TimeType")) :: ws) ({ frames := 0, cells := 0, slots := 0, locals := 0 } : Room)) (fun a U => a = #[(.int p1)] ∧ Z.Warmed39 U.vm ∧ U.heap = h0) (fun _ _ _ _ _ => True) (fun _ U o U' => ∃ v L, o = .returned v ∧ Q1 Z p1 w_DATE w_CALENDAR w_INSTANT w_LOCAL_DATE w_LOCAL_DATE_TIME w_LOCAL_TIME w_MONTH_DAY w_OFFSET_DATE_TIME w_OFFSET_TIME w_YEAR w_YEAR_MONTH w_ZONED_DATE_TIME w_HIJRAH_DATE w_JAPANESE_DATE w_MINGUO_DATE w_THAI_BUDDHIST_DATE h0 n0 v U'.heap L ∧ FrameEnd U o U' L ({ frames := 0, cells := 0, slots := 0, locals := 0 } : Room).cells ({ frames := 0, cells := 0, slots := 0, locals := 0 } : Room).slots) := by
  refine MetFree.of_bodySF (plainFor_of_name pn_1) hisR ?_
  intro p e s m args below meth c s₁ Bd hml0 hP hK
  obtain ⟨rfl, hZ, hh⟩ := hP
  have hx := Bd.exec
  have hby := Bd.bytes
  have hml : c.maxLocals = 1 := hml0
  have hown : s.vm.findClass "com/example/boundsmith/boundsmith/internal/TimeTypeRepeatsPinLaw" = some m.cls := findClass_of_methodNamed Bd.named
  have hnm := (name_of_methodNamed Bd.named Bd.method).1
  have X0 : Stand p l e ({ frames := 0, cells := 0, slots := 0, locals := 0 } : Room) s m #[(.int p1)] below meth c s₁ [] 0 0 := Stand.of_body Bd
  have e0 : s₁.heap = h0 := by rw [← hh, Bd.state]; rfl
  have N0 := Fr.nil n0
  have pre0 : ∀ t, Steps p.tables e below (s₁.setTop (mkF m 0 #[.val (.int p1)] [])) t → Steps p.tables e below (s₁.setTop (entryFrame m #[(.int p1)] 1)) t := fun t k => castTop (ef_1 m p1) k
  have pre2 : ∀ t, Steps p.tables e below (s₁.setTop (mkF m 1 #[.val (.int p1)] [(.int p1)])) t → Steps p.tables e below (s₁.setTop (entryFrame m #[(.int p1)] 1)) t := fun t kt => by
    refine pre0 _ ?_
    show Steps p.tables e below (s₁.setTop (mkF m 0 #[.val (.int p1)] [])) _
    refine XS.iloadN X0.here hx rfl (hb hby d1_0) rfl ?_
    exact kt
  by_cases hc3 : p1 = (0 : Int32)
  · skip
    obtain ⟨T4, X4, e4, st4⟩ := getS2 X0 hx hZ hown (host := "") (Or.inl (hw _ (List.mem_of_getElem? (i := 4) rfl))) Via.refl e0 S_DATE (g := (mkF m 4 #[.val (.int p1)] [])) rfl (hb hby d1_4)
    obtain ⟨fs, hr, hrun, hended, hW, hsame⟩ := X4.leave (v := some (.ref w_DATE)) (fun h => by rw [Bd.returns] at h; cases h) (by first | exact BodyLoose.notSynchronized Bd | exact Body.notSynchronized Bd)
    refine ⟨_, _, pre2 _ ?_, hrun, hended, _, _, rfl, ?_, ⟨_, rfl⟩, hW, hsame.mono (by decide) (by decide)⟩
    · show Steps p.tables e below (s₁.setTop (mkF m 1 #[.val (.int p1)] [(.int p1)])) _
      refine XS.ifNo X0.here hx rfl (hb hby d1_1) rfl ((if0 _ _).trans (teq hc3).2) ?_
      show Steps p.tables e below (s₁.setTop (mkF m 4 _ [])) _
      refine st4 _ ?_
      show Steps p.tables e below (T4.setTop (mkF m 7 #[.val (.int p1)] [(.ref w_DATE)])) _
      jvm_step X4.here [X4.here.top, hx, (hb hby d1_7), X4.method', Bd.returns, Value.isRef, FieldType.isReference]
      first | (intro acts; rw [hr _ acts rfl rfl rfl]) | rw [hr _ _ rfl rfl rfl]
      exact Steps.refl _
    · show Q1 Z p1 w_DATE w_CALENDAR w_INSTANT w_LOCAL_DATE w_LOCAL_DATE_TIME w_LOCAL_TIME w_MONTH_DAY w_OFFSET_DATE_TIME w_OFFSET_TIME w_YEAR w_YEAR_MONTH w_ZONED_DATE_TIME w_HIJRAH_DATE w_JAPANESE_DATE w_MINGUO_DATE w_THAI_BUDDHIST_DATE h0 n0 _ T4.heap _
      rw [e4]
      exact ⟨congrArg (fun z => some (Value.ref z)) (by rw [f1, if_pos hc3] : f1 p1 w_DATE w_CALENDAR w_INSTANT w_LOCAL_DATE w_LOCAL_DATE_TIME w_LOCAL_TIME w_MONTH_DAY w_OFFSET_DATE_TIME w_OFFSET_TIME w_YEAR w_YEAR_MONTH w_ZONED_DATE_TIME w_HIJRAH_DATE w_JAPANESE_DATE w_MINGUO_DATE w_THAI_BUDDHIST_DATE = w_DATE).symm, N0, rfl⟩
  · skip
    have pre5 : ∀ t, Steps p.tables e below (s₁.setTop (mkF m 10 #[.val (.int p1)] [(.int (1 : Int32)), (.int p1)])) t → Steps p.tables e below (s₁.setTop (entryFrame m #[(.int p1)] 1)) t := fun t kt => by
      refine pre2 _ ?_
      show Steps p.tables e below (s₁.setTop (mkF m 1 #[.val (.int p1)] [(.int p1)])) _
      refine XS.ifYes X0.here hx rfl (pc0 := 1) (pc' := 8) rfl (hb hby d1_1) rfl ((if0 _ _).trans (feq hc3).2) (by decide) (by decide) ?_
      show Steps p.tables e below (s₁.setTop (mkF m 8 _ [])) _
      refine XS.iloadN X0.here hx rfl (hb hby d1_8) rfl ?_
      show Steps p.tables e below (s₁.setTop (mkF m 9 _ [(.int p1)])) _
      refine XS.iconst X0.here hx rfl (hb hby d1_9) ?_
      exact kt
    by_cases hc6 : p1 = (1 : Int32)
    · skip
      obtain ⟨T7, X7, e7, st7⟩ := getS2 X0 hx hZ hown (host := "") (Or.inl (hw _ (List.mem_of_getElem? (i := 36) rfl))) Via.refl e0 S_CALENDAR (g := (mkF m 13 #[.val (.int p1)] [])) rfl (hb hby d1_13)
      obtain ⟨fs, hr, hrun, hended, hW, hsame⟩ := X7.leave (v := some (.ref w_CALENDAR)) (fun h => by rw [Bd.returns] at h; cases h) (by first | exact BodyLoose.notSynchronized Bd | exact Body.notSynchronized Bd)
      refine ⟨_, _, pre5 _ ?_, hrun, hended, _, _, rfl, ?_, ⟨_, rfl⟩, hW, hsame.mono (by decide) (by decide)⟩
      · show Steps p.tables e below (s₁.setTop (mkF m 10 #[.val (.int p1)] [(.int (1 : Int32)), (.int p1)])) _
        refine XS.icmpNo X0.here hx rfl (hb hby d1_10) rfl (teq hc6).2 ?_
        show Steps p.tables e below (s₁.setTop (mkF m 13 _ [])) _
        refine st7 _ ?_
        show Steps p.tables e below (T7.setTop (mkF m 16 #[.val (.int p1)] [(.ref w_CALENDAR)])) _
        jvm_step X7.here [X7.here.top, hx, (hb hby d1_16), X7.method', Bd.returns, Value.isRef, FieldType.isReference]
        first | (intro acts; rw [hr _ acts rfl rfl rfl]) | rw [hr _ _ rfl rfl rfl]
        exact Steps.refl _
      · show Q1 Z p1 w_DATE w_CALENDAR w_INSTANT w_LOCAL_DATE w_LOCAL_DATE_TIME w_LOCAL_TIME w_MONTH_DAY w_OFFSET_DATE_TIME w_OFFSET_TIME w_YEAR w_YEAR_MONTH w_ZONED_DATE_TIME w_HIJRAH_DATE w_JAPANESE_DATE w_MINGUO_DATE w_THAI_BUDDHIST_DATE h0 n0 _ T7.heap _
        rw [e7]
        exact ⟨congrArg (fun z => some (Value.ref z)) (by rw [f1, if_neg hc3, if_pos hc6] : f1 p1 w_DATE w_CALENDAR w_INSTANT w_LOCAL_DATE w_LOCAL_DATE_TIME w_LOCAL_TIME w_MONTH_DAY w_OFFSET_DATE_TIME w_OFFSET_TIME w_YEAR w_YEAR_MONTH w_ZONED_DATE_TIME w_HIJRAH_DATE w_JAPANESE_DATE w_MINGUO_DATE w_THAI_BUDDHIST_DATE = w_CALENDAR).symm, N0, rfl⟩
    · skip
      have pre8 : ∀ t, Steps p.tables e below (s₁.setTop (mkF m 19 #[.val (.int p1)] [(.int (2 : Int32)), (.int p1)])) t → Steps p.tables e below (s₁.setTop (entryFrame m #[(.int p1)] 1)) t := fun t kt => by
        refine pre5 _ ?_
        show Steps p.tables e below (s₁.setTop (mkF m 10 #[.val (.int p1)] [(.int (1 : Int32)), (.int p1)])) _
        refine XS.icmpYes X0.here hx rfl (pc0 := 10) (pc' := 17) rfl (hb hby d1_10) rfl (feq hc6).2 (by decide) (by decide) ?_
        show Steps p.tables e below (s₁.setTop (mkF m 17 _ [])) _
        refine XS.iloadN X0.here hx rfl (hb hby d1_17) rfl ?_
        show Steps p.tables e below (s₁.setTop (mkF m 18 _ [(.int p1)])) _
        refine XS.iconst X0.here hx rfl (hb hby d1_18) ?_
        exact kt
      by_cases hc9 : p1 = (2 : Int32)
      · skip
        obtain ⟨T10, X10, e10, st10⟩ := getS2 X0 hx hZ hown (host := "") (Or.inl (hw _ (List.mem_of_getElem? (i := 31) rfl))) Via.refl e0 S_INSTANT (g := (mkF m 22 #[.val (.int p1)] [])) rfl (hb hby d1_22)
        obtain ⟨fs, hr, hrun, hended, hW, hsame⟩ := X10.leave (v := some (.ref w_INSTANT)) (fun h => by rw [Bd.returns] at h; cases h) (by first | exact BodyLoose.notSynchronized Bd | exact Body.notSynchronized Bd)
        refine ⟨_, _, pre8 _ ?_, hrun, hended, _, _, rfl, ?_, ⟨_, rfl⟩, hW, hsame.mono (by decide) (by decide)⟩
        · show Steps p.tables e below (s₁.setTop (mkF m 19 #[.val (.int p1)] [(.int (2 : Int32)), (.int p1)])) _
          refine XS.icmpNo X0.here hx rfl (hb hby d1_19) rfl (teq hc9).2 ?_
          show Steps p.tables e below (s₁.setTop (mkF m 22 _ [])) _
          refine st10 _ ?_
          show Steps p.tables e below (T10.setTop (mkF m 25 #[.val (.int p1)] [(.ref w_INSTANT)])) _
          jvm_step X10.here [X10.here.top, hx, (hb hby d1_25), X10.method', Bd.returns, Value.isRef, FieldType.isReference]
          first | (intro acts; rw [hr _ acts rfl rfl rfl]) | rw [hr _ _ rfl rfl rfl]
          exact Steps.refl _
        · show Q1 Z p1 w_DATE w_CALENDAR w_INSTANT w_LOCAL_DATE w_LOCAL_DATE_TIME w_LOCAL_TIME w_MONTH_DAY w_OFFSET_DATE_TIME w_OFFSET_TIME w_YEAR w_YEAR_MONTH w_ZONED_DATE_TIME w_HIJRAH_DATE w_JAPANESE_DATE w_MINGUO_DATE w_THAI_BUDDHIST_DATE h0 n0 _ T10.heap _
          rw [e10]
          exact ⟨congrArg (fun z => some (Value.ref z)) (by rw [f1, if_neg hc3, if_neg hc6, if_pos hc9] : f1 p1 w_DATE w_CALENDAR w_INSTANT w_LOCAL_DATE w_LOCAL_DATE_TIME w_LOCAL_TIME w_MONTH_DAY w_OFFSET_DATE_TIME w_OFFSET_TIME w_YEAR w_YEAR_MONTH w_ZONED_DATE_TIME w_HIJRAH_DATE w_JAPANESE_DATE w_MINGUO_DATE w_THAI_BUDDHIST_DATE = w_INSTANT).symm, N0, rfl⟩
      · skip
        have pre11 : ∀ t, Steps p.tables e below (s₁.setTop (mkF m 28 #[.val (.int p1)] [(.int (3 : Int32)), (.int p1)])) t → Steps p.tables e below (s₁.setTop (entryFrame m #[(.int p1)] 1)) t := fun t kt => by
          refine pre8 _ ?_
          show Steps p.tables e below (s₁.setTop (mkF m 19 #[.val (.int p1)] [(.int (2 : Int32)), (.int p1)])) _
          refine XS.icmpYes X0.here hx rfl (pc0 := 19) (pc' := 26) rfl (hb hby d1_19) rfl (feq hc9).2 (by decide) (by decide) ?_
          show Steps p.tables e below (s₁.setTop (mkF m 26 _ [])) _
          refine XS.iloadN X0.here hx rfl (hb hby d1_26) rfl ?_
          show Steps p.tables e below (s₁.setTop (mkF m 27 _ [(.int p1)])) _
          refine XS.iconst X0.here hx rfl (hb hby d1_27) ?_
          exact kt
        by_cases hc12 : p1 = (3 : Int32)
        · skip
          obtain ⟨T13, X13, e13, st13⟩ := getS2 X0 hx hZ hown (host := "") (Or.inl (hw _ (List.mem_of_getElem? (i := 21) rfl))) Via.refl e0 S_LOCAL_DATE (g := (mkF m 31 #[.val (.int p1)] [])) rfl (hb hby d1_31)
          obtain ⟨fs, hr, hrun, hended, hW, hsame⟩ := X13.leave (v := some (.ref w_LOCAL_DATE)) (fun h => by rw [Bd.returns] at h; cases h) (by first | exact BodyLoose.notSynchronized Bd | exact Body.notSynchronized Bd)
          refine ⟨_, _, pre11 _ ?_, hrun, hended, _, _, rfl, ?_, ⟨_, rfl⟩, hW, hsame.mono (by decide) (by decide)⟩
          · show Steps p.tables e below (s₁.setTop (mkF m 28 #[.val (.int p1)] [(.int (3 : Int32)), (.int p1)])) _
            refine XS.icmpNo X0.here hx rfl (hb hby d1_28) rfl (teq hc12).2 ?_
            show Steps p.tables e below (s₁.setTop (mkF m 31 _ [])) _
            refine st13 _ ?_
            show Steps p.tables e below (T13.setTop (mkF m 34 #[.val (.int p1)] [(.ref w_LOCAL_DATE)])) _
            jvm_step X13.here [X13.here.top, hx, (hb hby d1_34), X13.method', Bd.returns, Value.isRef, FieldType.isReference]
            first | (intro acts; rw [hr _ acts rfl rfl rfl]) | rw [hr _ _ rfl rfl rfl]
            exact Steps.refl _
          · show Q1 Z p1 w_DATE w_CALENDAR w_INSTANT w_LOCAL_DATE w_LOCAL_DATE_TIME w_LOCAL_TIME w_MONTH_DAY w_OFFSET_DATE_TIME w_OFFSET_TIME w_YEAR w_YEAR_MONTH w_ZONED_DATE_TIME w_HIJRAH_DATE w_JAPANESE_DATE w_MINGUO_DATE w_THAI_BUDDHIST_DATE h0 n0 _ T13.heap _
            rw [e13]
            exact ⟨congrArg (fun z => some (Value.ref z)) (by rw [f1, if_neg hc3, if_neg hc6, if_neg hc9, if_pos hc12] : f1 p1 w_DATE w_CALENDAR w_INSTANT w_LOCAL_DATE w_LOCAL_DATE_TIME w_LOCAL_TIME w_MONTH_DAY w_OFFSET_DATE_TIME w_OFFSET_TIME w_YEAR w_YEAR_MONTH w_ZONED_DATE_TIME w_HIJRAH_DATE w_JAPANESE_DATE w_MINGUO_DATE w_THAI_BUDDHIST_DATE = w_LOCAL_DATE).symm, N0, rfl⟩
        · skip
          have pre14 : ∀ t, Steps p.tables e below (s₁.setTop (mkF m 37 #[.val (.int p1)] [(.int (4 : Int32)), (.int p1)])) t → Steps p.tables e below (s₁.setTop (entryFrame m #[(.int p1)] 1)) t := fun t kt => by
            refine pre11 _ ?_
            show Steps p.tables e below (s₁.setTop (mkF m 28 #[.val (.int p1)] [(.int (3 : Int32)), (.int p1)])) _
            refine XS.icmpYes X0.here hx rfl (pc0 := 28) (pc' := 35) rfl (hb hby d1_28) rfl (feq hc12).2 (by decide) (by decide) ?_
            show Steps p.tables e below (s₁.setTop (mkF m 35 _ [])) _
            refine XS.iloadN X0.here hx rfl (hb hby d1_35) rfl ?_
            show Steps p.tables e below (s₁.setTop (mkF m 36 _ [(.int p1)])) _
            refine XS.iconst X0.here hx rfl (hb hby d1_36) ?_
            exact kt
          by_cases hc15 : p1 = (4 : Int32)
          · skip
            obtain ⟨T16, X16, e16, st16⟩ := getS2 X0 hx hZ hown (host := "") (Or.inl (hw _ (List.mem_of_getElem? (i := 38) rfl))) Via.refl e0 S_LOCAL_DATE_TIME (g := (mkF m 40 #[.val (.int p1)] [])) rfl (hb hby d1_40)
            obtain ⟨fs, hr, hrun, hended, hW, hsame⟩ := X16.leave (v := some (.ref w_LOCAL_DATE_TIME)) (fun h => by rw [Bd.returns] at h; cases h) (by first | exact BodyLoose.notSynchronized Bd | exact Body.notSynchronized Bd)
            refine ⟨_, _, pre14 _ ?_, hrun, hended, _, _, rfl, ?_, ⟨_, rfl⟩, hW, hsame.mono (by decide) (by decide)⟩
            · show Steps p.tables e below (s₁.setTop (mkF m 37 #[.val (.int p1)] [(.int (4 : Int32)), (.int p1)])) _
              refine XS.icmpNo X0.here hx rfl (hb hby d1_37) rfl (teq hc15).2 ?_
              show Steps p.tables e below (s₁.setTop (mkF m 40 _ [])) _
              refine st16 _ ?_
              show Steps p.tables e below (T16.setTop (mkF m 43 #[.val (.int p1)] [(.ref w_LOCAL_DATE_TIME)])) _
              jvm_step X16.here [X16.here.top, hx, (hb hby d1_43), X16.method', Bd.returns, Value.isRef, FieldType.isReference]
              first | (intro acts; rw [hr _ acts rfl rfl rfl]) | rw [hr _ _ rfl rfl rfl]
              exact Steps.refl _
            · show Q1 Z p1 w_DATE w_CALENDAR w_INSTANT w_LOCAL_DATE w_LOCAL_DATE_TIME w_LOCAL_TIME w_MONTH_DAY w_OFFSET_DATE_TIME w_OFFSET_TIME w_YEAR w_YEAR_MONTH w_ZONED_DATE_TIME w_HIJRAH_DATE w_JAPANESE_DATE w_MINGUO_DATE w_THAI_BUDDHIST_DATE h0 n0 _ T16.heap _
              rw [e16]
              exact ⟨congrArg (fun z => some (Value.ref z)) (by rw [f1, if_neg hc3, if_neg hc6, if_neg hc9, if_neg hc12, if_pos hc15] : f1 p1 w_DATE w_CALENDAR w_INSTANT w_LOCAL_DATE w_LOCAL_DATE_TIME w_LOCAL_TIME w_MONTH_DAY w_OFFSET_DATE_TIME w_OFFSET_TIME w_YEAR w_YEAR_MONTH w_ZONED_DATE_TIME w_HIJRAH_DATE w_JAPANESE_DATE w_MINGUO_DATE w_THAI_BUDDHIST_DATE = w_LOCAL_DATE_TIME).symm, N0, rfl⟩
          · skip
            have pre17 : ∀ t, Steps p.tables e below (s₁.setTop (mkF m 46 #[.val (.int p1)] [(.int (5 : Int32)), (.int p1)])) t → Steps p.tables e below (s₁.setTop (entryFrame m #[(.int p1)] 1)) t := fun t kt => by
              refine pre14 _ ?_
              show Steps p.tables e below (s₁.setTop (mkF m 37 #[.val (.int p1)] [(.int (4 : Int32)), (.int p1)])) _
              refine XS.icmpYes X0.here hx rfl (pc0 := 37) (pc' := 44) rfl (hb hby d1_37) rfl (feq hc15).2 (by decide) (by decide) ?_
              show Steps p.tables e below (s₁.setTop (mkF m 44 _ [])) _
              refine XS.iloadN X0.here hx rfl (hb hby d1_44) rfl ?_
              show Steps p.tables e below (s₁.setTop (mkF m 45 _ [(.int p1)])) _
              refine XS.iconst X0.here hx rfl (hb hby d1_45) ?_
              exact kt
            by_cases hc18 : p1 = (5 : Int32)
            · skip
              obtain ⟨T19, X19, e19, st19⟩ := getS2 X0 hx hZ hown (host := "") (Or.inl (hw _ (List.mem_of_getElem? (i := 47) rfl))) Via.refl e0 S_LOCAL_TIME (g := (mkF m 49 #[.val (.int p1)] [])) rfl (hb hby d1_49)
              obtain ⟨fs, hr, hrun, hended, hW, hsame⟩ := X19.leave (v := some (.ref w_LOCAL_TIME)) (fun h => by rw [Bd.returns] at h; cases h) (by first | exact BodyLoose.notSynchronized Bd | exact Body.notSynchronized Bd)
              refine ⟨_, _, pre17 _ ?_, hrun, hended, _, _, rfl, ?_, ⟨_, rfl⟩, hW, hsame.mono (by decide) (by decide)⟩
              · show Steps p.tables e below (s₁.setTop (mkF m 46 #[.val (.int p1)] [(.int (5 : Int32)), (.int p1)])) _
                refine XS.icmpNo X0.here hx rfl (hb hby d1_46) rfl (teq hc18).2 ?_
                show Steps p.tables e below (s₁.setTop (mkF m 49 _ [])) _
                refine st19 _ ?_
                show Steps p.tables e below (T19.setTop (mkF m 52 #[.val (.int p1)] [(.ref w_LOCAL_TIME)])) _
                jvm_step X19.here [X19.here.top, hx, (hb hby d1_52), X19.method', Bd.returns, Value.isRef, FieldType.isReference]
                first | (intro acts; rw [hr _ acts rfl rfl rfl]) | rw [hr _ _ rfl rfl rfl]
                exact Steps.refl _
              · show Q1 Z p1 w_DATE w_CALENDAR w_INSTANT w_LOCAL_DATE w_LOCAL_DATE_TIME w_LOCAL_TIME w_MONTH_DAY w_OFFSET_DATE_TIME w_OFFSET_TIME w_YEAR w_YEAR_MONTH w_ZONED_DATE_TIME w_HIJRAH_DATE w_JAPANESE_DATE w_MINGUO_DATE w_THAI_BUDDHIST_DATE h0 n0 _ T19.heap _
                rw [e19]
                exact ⟨congrArg (fun z => some (Value.ref z)) (by rw [f1, if_neg hc3, if_neg hc6, if_neg hc9, if_neg hc12, if_neg hc15, if_pos hc18] : f1 p1 w_DATE w_CALENDAR w_INSTANT w_LOCAL_DATE w_LOCAL_DATE_TIME w_LOCAL_TIME w_MONTH_DAY w_OFFSET_DATE_TIME w_OFFSET_TIME w_YEAR w_YEAR_MONTH w_ZONED_DATE_TIME w_HIJRAH_DATE w_JAPANESE_DATE w_MINGUO_DATE w_THAI_BUDDHIST_DATE = w_LOCAL_TIME).symm, N0, rfl⟩
            · skip
              have pre20 : ∀ t, Steps p.tables e below (s₁.setTop (mkF m 56 #[.val (.int p1)] [(.int (6 : Int32)), (.int p1)])) t → Steps p.tables e below (s₁.setTop (entryFrame m #[(.int p1)] 1)) t := fun t kt => by
                refine pre17 _ ?_
                show Steps p.tables e below (s₁.setTop (mkF m 46 #[.val (.int p1)] [(.int (5 : Int32)), (.int p1)])) _
                refine XS.icmpYes X0.here hx rfl (pc0 := 46) (pc' := 53) rfl (hb hby d1_46) rfl (feq hc18).2 (by decide) (by decide) ?_
                show Steps p.tables e below (s₁.setTop (mkF m 53 _ [])) _
                refine XS.iloadN X0.here hx rfl (hb hby d1_53) rfl ?_
                show Steps p.tables e below (s₁.setTop (mkF m 54 _ [(.int p1)])) _
                refine XS.bipush X0.here hx rfl (hb hby d1_54) ?_
                exact kt
              by_cases hc21 : p1 = (6 : Int32)
              · skip
                obtain ⟨T22, X22, e22, st22⟩ := getS2 X0 hx hZ hown (host := "") (Or.inl (hw _ (List.mem_of_getElem? (i := 44) rfl))) Via.refl e0 S_MONTH_DAY (g := (mkF m 59 #[.val (.int p1)] [])) rfl (hb hby d1_59)
                obtain ⟨fs, hr, hrun, hended, hW, hsame⟩ := X22.leave (v := some (.ref w_MONTH_DAY)) (fun h => by rw [Bd.returns] at h; cases h) (by first | exact BodyLoose.notSynchronized Bd | exact Body.notSynchronized Bd)
                refine ⟨_, _, pre20 _ ?_, hrun, hended, _, _, rfl, ?_, ⟨_, rfl⟩, hW, hsame.mono (by decide) (by decide)⟩
                · show Steps p.tables e below (s₁.setTop (mkF m 56 #[.val (.int p1)] [(.int (6 : Int32)), (.int p1)])) _
                  refine XS.icmpNo X0.here hx rfl (hb hby d1_56) rfl (teq hc21).2 ?_
                  show Steps p.tables e below (s₁.setTop (mkF m 59 _ [])) _
                  refine st22 _ ?_
                  show Steps p.tables e below (T22.setTop (mkF m 62 #[.val (.int p1)] [(.ref w_MONTH_DAY)])) _
                  jvm_step X22.here [X22.here.top, hx, (hb hby d1_62), X22.method', Bd.returns, Value.isRef, FieldType.isReference]
                  first | (intro acts; rw [hr _ acts rfl rfl rfl]) | rw [hr _ _ rfl rfl rfl]
                  exact Steps.refl _
                · show Q1 Z p1 w_DATE w_CALENDAR w_INSTANT w_LOCAL_DATE w_LOCAL_DATE_TIME w_LOCAL_TIME w_MONTH_DAY w_OFFSET_DATE_TIME w_OFFSET_TIME w_YEAR w_YEAR_MONTH w_ZONED_DATE_TIME w_HIJRAH_DATE w_JAPANESE_DATE w_MINGUO_DATE w_THAI_BUDDHIST_DATE h0 n0 _ T22.heap _
                  rw [e22]
                  exact ⟨congrArg (fun z => some (Value.ref z)) (by rw [f1, if_neg hc3, if_neg hc6, if_neg hc9, if_neg hc12, if_neg hc15, if_neg hc18, if_pos hc21] : f1 p1 w_DATE w_CALENDAR w_INSTANT w_LOCAL_DATE w_LOCAL_DATE_TIME w_LOCAL_TIME w_MONTH_DAY w_OFFSET_DATE_TIME w_OFFSET_TIME w_YEAR w_YEAR_MONTH w_ZONED_DATE_TIME w_HIJRAH_DATE w_JAPANESE_DATE w_MINGUO_DATE w_THAI_BUDDHIST_DATE = w_MONTH_DAY).symm, N0, rfl⟩
              · skip
                have pre23 : ∀ t, Steps p.tables e below (s₁.setTop (mkF m 66 #[.val (.int p1)] [(.int (7 : Int32)), (.int p1)])) t → Steps p.tables e below (s₁.setTop (entryFrame m #[(.int p1)] 1)) t := fun t kt => by
                  refine pre20 _ ?_
                  show Steps p.tables e below (s₁.setTop (mkF m 56 #[.val (.int p1)] [(.int (6 : Int32)), (.int p1)])) _
                  refine XS.icmpYes X0.here hx rfl (pc0 := 56) (pc' := 63) rfl (hb hby d1_56) rfl (feq hc21).2 (by decide) (by decide) ?_
                  show Steps p.tables e below (s₁.setTop (mkF m 63 _ [])) _
                  refine XS.iloadN X0.here hx rfl (hb hby d1_63) rfl ?_
                  show Steps p.tables e below (s₁.setTop (mkF m 64 _ [(.int p1)])) _
                  refine XS.bipush X0.here hx rfl (hb hby d1_64) ?_
                  exact kt
                by_cases hc24 : p1 = (7 : Int32)
                · skip
                  obtain ⟨T25, X25, e25, st25⟩ := getS2 X0 hx hZ hown (host := "") (Or.inl (hw _ (List.mem_of_getElem? (i := 29) rfl))) Via.refl e0 S_OFFSET_DATE_TIME (g := (mkF m 69 #[.val (.int p1)] [])) rfl (hb hby d1_69)
                  obtain ⟨fs, hr, hrun, hended, hW, hsame⟩ := X25.leave (v := some (.ref w_OFFSET_DATE_TIME)) (fun h => by rw [Bd.returns] at h; cases h) (by first | exact BodyLoose.notSynchronized Bd | exact Body.notSynchronized Bd)
                  refine ⟨_, _, pre23 _ ?_, hrun, hended, _, _, rfl, ?_, ⟨_, rfl⟩, hW, hsame.mono (by decide) (by decide)⟩
                  · show Steps p.tables e below (s₁.setTop (mkF m 66 #[.val (.int p1)] [(.int (7 : Int32)), (.int p1)])) _
                    refine XS.icmpNo X0.here hx rfl (hb hby d1_66) rfl (teq hc24).2 ?_
                    show Steps p.tables e below (s₁.setTop (mkF m 69 _ [])) _
                    refine st25 _ ?_
                    show Steps p.tables e below (T25.setTop (mkF m 72 #[.val (.int p1)] [(.ref w_OFFSET_DATE_TIME)])) _
                    jvm_step X25.here [X25.here.top, hx, (hb hby d1_72), X25.method', Bd.returns, Value.isRef, FieldType.isReference]
                    first | (intro acts; rw [hr _ acts rfl rfl rfl]) | rw [hr _ _ rfl rfl rfl]
                    exact Steps.refl _
                  · show Q1 Z p1 w_DATE w_CALENDAR w_INSTANT w_LOCAL_DATE w_LOCAL_DATE_TIME w_LOCAL_TIME w_MONTH_DAY w_OFFSET_DATE_TIME w_OFFSET_TIME w_YEAR w_YEAR_MONTH w_ZONED_DATE_TIME w_HIJRAH_DATE w_JAPANESE_DATE w_MINGUO_DATE w_THAI_BUDDHIST_DATE h0 n0 _ T25.heap _
                    rw [e25]
                    exact ⟨congrArg (fun z => some (Value.ref z)) (by rw [f1, if_neg hc3, if_neg hc6, if_neg hc9, if_neg hc12, if_neg hc15, if_neg hc18, if_neg hc21, if_pos hc24] : f1 p1 w_DATE w_CALENDAR w_INSTANT w_LOCAL_DATE w_LOCAL_DATE_TIME w_LOCAL_TIME w_MONTH_DAY w_OFFSET_DATE_TIME w_OFFSET_TIME w_YEAR w_YEAR_MONTH w_ZONED_DATE_TIME w_HIJRAH_DATE w_JAPANESE_DATE w_MINGUO_DATE w_THAI_BUDDHIST_DATE = w_OFFSET_DATE_TIME).symm, N0, rfl⟩
                · skip
                  have pre26 : ∀ t, Steps p.tables e below (s₁.setTop (mkF m 76 #[.val (.int p1)] [(.int (8 : Int32)), (.int p1)])) t → Steps p.tables e below (s₁.setTop (entryFrame m #[(.int p1)] 1)) t := fun t kt => by
                    refine pre23 _ ?_
                    show Steps p.tables e below (s₁.setTop (mkF m 66 #[.val (.int p1)] [(.int (7 : Int32)), (.int p1)])) _
                    refine XS.icmpYes X0.here hx rfl (pc0 := 66) (pc' := 73) rfl (hb hby d1_66) rfl (feq hc24).2 (by decide) (by decide) ?_
                    show Steps p.tables e below (s₁.setTop (mkF m 73 _ [])) _
                    refine XS.iloadN X0.here hx rfl (hb hby d1_73) rfl ?_
                    show Steps p.tables e below (s₁.setTop (mkF m 74 _ [(.int p1)])) _
                    refine XS.bipush X0.here hx rfl (hb hby d1_74) ?_
                    exact kt
                  by_cases hc27 : p1 = (8 : Int32)
                  · skip
                    obtain ⟨T28, X28, e28, st28⟩ := getS2 X0 hx hZ hown (host := "") (Or.inl (hw _ (List.mem_of_getElem? (i := 35) rfl))) Via.refl e0 S_OFFSET_TIME (g := (mkF m 79 #[.val (.int p1)] [])) rfl (hb hby d1_79)
                    obtain ⟨fs, hr, hrun, hended, hW, hsame⟩ := X28.leave (v := some (.ref w_OFFSET_TIME)) (fun h => by rw [Bd.returns] at h; cases h) (by first | exact BodyLoose.notSynchronized Bd | exact Body.notSynchronized Bd)
                    refine ⟨_, _, pre26 _ ?_, hrun, hended, _, _, rfl, ?_, ⟨_, rfl⟩, hW, hsame.mono (by decide) (by decide)⟩
                    · show Steps p.tables e below (s₁.setTop (mkF m 76 #[.val (.int p1)] [(.int (8 : Int32)), (.int p1)])) _
                      refine XS.icmpNo X0.here hx rfl (hb hby d1_76) rfl (teq hc27).2 ?_
                      show Steps p.tables e below (s₁.setTop (mkF m 79 _ [])) _
                      refine st28 _ ?_
                      show Steps p.tables e below (T28.setTop (mkF m 82 #[.val (.int p1)] [(.ref w_OFFSET_TIME)])) _
                      jvm_step X28.here [X28.here.top, hx, (hb hby d1_82), X28.method', Bd.returns, Value.isRef, FieldType.isReference]
                      first | (intro acts; rw [hr _ acts rfl rfl rfl]) | rw [hr _ _ rfl rfl rfl]
                      exact Steps.refl _
                    · show Q1 Z p1 w_DATE w_CALENDAR w_INSTANT w_LOCAL_DATE w_LOCAL_DATE_TIME w_LOCAL_TIME w_MONTH_DAY w_OFFSET_DATE_TIME w_OFFSET_TIME w_YEAR w_YEAR_MONTH w_ZONED_DATE_TIME w_HIJRAH_DATE w_JAPANESE_DATE w_MINGUO_DATE w_THAI_BUDDHIST_DATE h0 n0 _ T28.heap _
                      rw [e28]
                      exact ⟨congrArg (fun z => some (Value.ref z)) (by rw [f1, if_neg hc3, if_neg hc6, if_neg hc9, if_neg hc12, if_neg hc15, if_neg hc18, if_neg hc21, if_neg hc24, if_pos hc27] : f1 p1 w_DATE w_CALENDAR w_INSTANT w_LOCAL_DATE w_LOCAL_DATE_TIME w_LOCAL_TIME w_MONTH_DAY w_OFFSET_DATE_TIME w_OFFSET_TIME w_YEAR w_YEAR_MONTH w_ZONED_DATE_TIME w_HIJRAH_DATE w_JAPANESE_DATE w_MINGUO_DATE w_THAI_BUDDHIST_DATE = w_OFFSET_TIME).symm, N0, rfl⟩
                  · skip
                    have pre29 : ∀ t, Steps p.tables e below (s₁.setTop (mkF m 86 #[.val (.int p1)] [(.int (9 : Int32)), (.int p1)])) t → Steps p.tables e below (s₁.setTop (entryFrame m #[(.int p1)] 1)) t := fun t kt => by
                      refine pre26 _ ?_
                      show Steps p.tables e below (s₁.setTop (mkF m 76 #[.val (.int p1)] [(.int (8 : Int32)), (.int p1)])) _
                      refine XS.icmpYes X0.here hx rfl (pc0 := 76) (pc' := 83) rfl (hb hby d1_76) rfl (feq hc27).2 (by decide) (by decide) ?_
                      show Steps p.tables e below (s₁.setTop (mkF m 83 _ [])) _
                      refine XS.iloadN X0.here hx rfl (hb hby d1_83) rfl ?_
                      show Steps p.tables e below (s₁.setTop (mkF m 84 _ [(.int p1)])) _
                      refine XS.bipush X0.here hx rfl (hb hby d1_84) ?_
                      exact kt
                    by_cases hc30 : p1 = (9 : Int32)
                    · skip
                      obtain ⟨T31, X31, e31, st31⟩ := getS2 X0 hx hZ hown (host := "") (Or.inl (hw _ (List.mem_of_getElem? (i := 45) rfl))) Via.refl e0 S_YEAR (g := (mkF m 89 #[.val (.int p1)] [])) rfl (hb hby d1_89)
                      obtain ⟨fs, hr, hrun, hended, hW, hsame⟩ := X31.leave (v := some (.ref w_YEAR)) (fun h => by rw [Bd.returns] at h; cases h) (by first | exact BodyLoose.notSynchronized Bd | exact Body.notSynchronized Bd)
                      refine ⟨_, _, pre29 _ ?_, hrun, hended, _, _, rfl, ?_, ⟨_, rfl⟩, hW, hsame.mono (by decide) (by decide)⟩
                      · show Steps p.tables e below (s₁.setTop (mkF m 86 #[.val (.int p1)] [(.int (9 : Int32)), (.int p1)])) _
                        refine XS.icmpNo X0.here hx rfl (hb hby d1_86) rfl (teq hc30).2 ?_
                        show Steps p.tables e below (s₁.setTop (mkF m 89 _ [])) _
                        refine st31 _ ?_
                        show Steps p.tables e below (T31.setTop (mkF m 92 #[.val (.int p1)] [(.ref w_YEAR)])) _
                        jvm_step X31.here [X31.here.top, hx, (hb hby d1_92), X31.method', Bd.returns, Value.isRef, FieldType.isReference]
                        first | (intro acts; rw [hr _ acts rfl rfl rfl]) | rw [hr _ _ rfl rfl rfl]
                        exact Steps.refl _
                      · show Q1 Z p1 w_DATE w_CALENDAR w_INSTANT w_LOCAL_DATE w_LOCAL_DATE_TIME w_LOCAL_TIME w_MONTH_DAY w_OFFSET_DATE_TIME w_OFFSET_TIME w_YEAR w_YEAR_MONTH w_ZONED_DATE_TIME w_HIJRAH_DATE w_JAPANESE_DATE w_MINGUO_DATE w_THAI_BUDDHIST_DATE h0 n0 _ T31.heap _
                        rw [e31]
                        exact ⟨congrArg (fun z => some (Value.ref z)) (by rw [f1, if_neg hc3, if_neg hc6, if_neg hc9, if_neg hc12, if_neg hc15, if_neg hc18, if_neg hc21, if_neg hc24, if_neg hc27, if_pos hc30] : f1 p1 w_DATE w_CALENDAR w_INSTANT w_LOCAL_DATE w_LOCAL_DATE_TIME w_LOCAL_TIME w_MONTH_DAY w_OFFSET_DATE_TIME w_OFFSET_TIME w_YEAR w_YEAR_MONTH w_ZONED_DATE_TIME w_HIJRAH_DATE w_JAPANESE_DATE w_MINGUO_DATE w_THAI_BUDDHIST_DATE = w_YEAR).symm, N0, rfl⟩
                    · skip
                      have pre32 : ∀ t, Steps p.tables e below (s₁.setTop (mkF m 96 #[.val (.int p1)] [(.int (10 : Int32)), (.int p1)])) t → Steps p.tables e below (s₁.setTop (entryFrame m #[(.int p1)] 1)) t := fun t kt => by
                        refine pre29 _ ?_
                        show Steps p.tables e below (s₁.setTop (mkF m 86 #[.val (.int p1)] [(.int (9 : Int32)), (.int p1)])) _
                        refine XS.icmpYes X0.here hx rfl (pc0 := 86) (pc' := 93) rfl (hb hby d1_86) rfl (feq hc30).2 (by decide) (by decide) ?_
                        show Steps p.tables e below (s₁.setTop (mkF m 93 _ [])) _
                        refine XS.iloadN X0.here hx rfl (hb hby d1_93) rfl ?_
                        show Steps p.tables e below (s₁.setTop (mkF m 94 _ [(.int p1)])) _
                        refine XS.bipush X0.here hx rfl (hb hby d1_94) ?_
                        exact kt
                      by_cases hc33 : p1 = (10 : Int32)
                      · skip
                        obtain ⟨T34, X34, e34, st34⟩ := getS2 X0 hx hZ hown (host := "") (Or.inl (hw _ (List.mem_of_getElem? (i := 27) rfl))) Via.refl e0 S_YEAR_MONTH (g := (mkF m 99 #[.val (.int p1)] [])) rfl (hb hby d1_99)
                        obtain ⟨fs, hr, hrun, hended, hW, hsame⟩ := X34.leave (v := some (.ref w_YEAR_MONTH)) (fun h => by rw [Bd.returns] at h; cases h) (by first | exact BodyLoose.notSynchronized Bd | exact Body.notSynchronized Bd)
                        refine ⟨_, _, pre32 _ ?_, hrun, hended, _, _, rfl, ?_, ⟨_, rfl⟩, hW, hsame.mono (by decide) (by decide)⟩
                        · show Steps p.tables e below (s₁.setTop (mkF m 96 #[.val (.int p1)] [(.int (10 : Int32)), (.int p1)])) _
                          refine XS.icmpNo X0.here hx rfl (hb hby d1_96) rfl (teq hc33).2 ?_
                          show Steps p.tables e below (s₁.setTop (mkF m 99 _ [])) _
                          refine st34 _ ?_
                          show Steps p.tables e below (T34.setTop (mkF m 102 #[.val (.int p1)] [(.ref w_YEAR_MONTH)])) _
                          jvm_step X34.here [X34.here.top, hx, (hb hby d1_102), X34.method', Bd.returns, Value.isRef, FieldType.isReference]
                          first | (intro acts; rw [hr _ acts rfl rfl rfl]) | rw [hr _ _ rfl rfl rfl]
                          exact Steps.refl _
                        · show Q1 Z p1 w_DATE w_CALENDAR w_INSTANT w_LOCAL_DATE w_LOCAL_DATE_TIME w_LOCAL_TIME w_MONTH_DAY w_OFFSET_DATE_TIME w_OFFSET_TIME w_YEAR w_YEAR_MONTH w_ZONED_DATE_TIME w_HIJRAH_DATE w_JAPANESE_DATE w_MINGUO_DATE w_THAI_BUDDHIST_DATE h0 n0 _ T34.heap _
                          rw [e34]
                          exact ⟨congrArg (fun z => some (Value.ref z)) (by rw [f1, if_neg hc3, if_neg hc6, if_neg hc9, if_neg hc12, if_neg hc15, if_neg hc18, if_neg hc21, if_neg hc24, if_neg hc27, if_neg hc30, if_pos hc33] : f1 p1 w_DATE w_CALENDAR w_INSTANT w_LOCAL_DATE w_LOCAL_DATE_TIME w_LOCAL_TIME w_MONTH_DAY w_OFFSET_DATE_TIME w_OFFSET_TIME w_YEAR w_YEAR_MONTH w_ZONED_DATE_TIME w_HIJRAH_DATE w_JAPANESE_DATE w_MINGUO_DATE w_THAI_BUDDHIST_DATE = w_YEAR_MONTH).symm, N0, rfl⟩
                      · skip
                        have pre35 : ∀ t, Steps p.tables e below (s₁.setTop (mkF m 106 #[.val (.int p1)] [(.int (11 : Int32)), (.int p1)])) t → Steps p.tables e below (s₁.setTop (entryFrame m #[(.int p1)] 1)) t := fun t kt => by
                          refine pre32 _ ?_
                          show Steps p.tables e below (s₁.setTop (mkF m 96 #[.val (.int p1)] [(.int (10 : Int32)), (.int p1)])) _
                          refine XS.icmpYes X0.here hx rfl (pc0 := 96) (pc' := 103) rfl (hb hby d1_96) rfl (feq hc33).2 (by decide) (by decide) ?_
                          show Steps p.tables e below (s₁.setTop (mkF m 103 _ [])) _
                          refine XS.iloadN X0.here hx rfl (hb hby d1_103) rfl ?_
                          show Steps p.tables e below (s₁.setTop (mkF m 104 _ [(.int p1)])) _
                          refine XS.bipush X0.here hx rfl (hb hby d1_104) ?_
                          exact kt
                        by_cases hc36 : p1 = (11 : Int32)
                        · skip
                          obtain ⟨T37, X37, e37, st37⟩ := getS2 X0 hx hZ hown (host := "") (Or.inl (hw _ (List.mem_of_getElem? (i := 33) rfl))) Via.refl e0 S_ZONED_DATE_TIME (g := (mkF m 109 #[.val (.int p1)] [])) rfl (hb hby d1_109)
                          obtain ⟨fs, hr, hrun, hended, hW, hsame⟩ := X37.leave (v := some (.ref w_ZONED_DATE_TIME)) (fun h => by rw [Bd.returns] at h; cases h) (by first | exact BodyLoose.notSynchronized Bd | exact Body.notSynchronized Bd)
                          refine ⟨_, _, pre35 _ ?_, hrun, hended, _, _, rfl, ?_, ⟨_, rfl⟩, hW, hsame.mono (by decide) (by decide)⟩
                          · show Steps p.tables e below (s₁.setTop (mkF m 106 #[.val (.int p1)] [(.int (11 : Int32)), (.int p1)])) _
                            refine XS.icmpNo X0.here hx rfl (hb hby d1_106) rfl (teq hc36).2 ?_
                            show Steps p.tables e below (s₁.setTop (mkF m 109 _ [])) _
                            refine st37 _ ?_
                            show Steps p.tables e below (T37.setTop (mkF m 112 #[.val (.int p1)] [(.ref w_ZONED_DATE_TIME)])) _
                            jvm_step X37.here [X37.here.top, hx, (hb hby d1_112), X37.method', Bd.returns, Value.isRef, FieldType.isReference]
                            first | (intro acts; rw [hr _ acts rfl rfl rfl]) | rw [hr _ _ rfl rfl rfl]
                            exact Steps.refl _
                          · show Q1 Z p1 w_DATE w_CALENDAR w_INSTANT w_LOCAL_DATE w_LOCAL_DATE_TIME w_LOCAL_TIME w_MONTH_DAY w_OFFSET_DATE_TIME w_OFFSET_TIME w_YEAR w_YEAR_MONTH w_ZONED_DATE_TIME w_HIJRAH_DATE w_JAPANESE_DATE w_MINGUO_DATE w_THAI_BUDDHIST_DATE h0 n0 _ T37.heap _
                            rw [e37]
                            exact ⟨congrArg (fun z => some (Value.ref z)) (by rw [f1, if_neg hc3, if_neg hc6, if_neg hc9, if_neg hc12, if_neg hc15, if_neg hc18, if_neg hc21, if_neg hc24, if_neg hc27, if_neg hc30, if_neg hc33, if_pos hc36] : f1 p1 w_DATE w_CALENDAR w_INSTANT w_LOCAL_DATE w_LOCAL_DATE_TIME w_LOCAL_TIME w_MONTH_DAY w_OFFSET_DATE_TIME w_OFFSET_TIME w_YEAR w_YEAR_MONTH w_ZONED_DATE_TIME w_HIJRAH_DATE w_JAPANESE_DATE w_MINGUO_DATE w_THAI_BUDDHIST_DATE = w_ZONED_DATE_TIME).symm, N0, rfl⟩
                        · skip
                          have pre38 : ∀ t, Steps p.tables e below (s₁.setTop (mkF m 116 #[.val (.int p1)] [(.int (12 : Int32)), (.int p1)])) t → Steps p.tables e below (s₁.setTop (entryFrame m #[(.int p1)] 1)) t := fun t kt => by
                            refine pre35 _ ?_
                            show Steps p.tables e below (s₁.setTop (mkF m 106 #[.val (.int p1)] [(.int (11 : Int32)), (.int p1)])) _
                            refine XS.icmpYes X0.here hx rfl (pc0 := 106) (pc' := 113) rfl (hb hby d1_106) rfl (feq hc36).2 (by decide) (by decide) ?_
                            show Steps p.tables e below (s₁.setTop (mkF m 113 _ [])) _
                            refine XS.iloadN X0.here hx rfl (hb hby d1_113) rfl ?_
                            show Steps p.tables e below (s₁.setTop (mkF m 114 _ [(.int p1)])) _
                            refine XS.bipush X0.here hx rfl (hb hby d1_114) ?_
                            exact kt
                          by_cases hc39 : p1 = (12 : Int32)
                          · skip
                            obtain ⟨T40, X40, e40, st40⟩ := getS2 X0 hx hZ hown (host := "") (Or.inl (hw _ (List.mem_of_getElem? (i := 40) rfl))) Via.refl e0 S_HIJRAH_DATE (g := (mkF m 119 #[.val (.int p1)] [])) rfl (hb hby d1_119)
                            obtain ⟨fs, hr, hrun, hended, hW, hsame⟩ := X40.leave (v := some (.ref w_HIJRAH_DATE)) (fun h => by rw [Bd.returns] at h; cases h) (by first | exact BodyLoose.notSynchronized Bd | exact Body.notSynchronized Bd)
                            refine ⟨_, _, pre38 _ ?_, hrun, hended, _, _, rfl, ?_, ⟨_, rfl⟩, hW, hsame.mono (by decide) (by decide)⟩
                            · show Steps p.tables e below (s₁.setTop (mkF m 116 #[.val (.int p1)] [(.int (12 : Int32)), (.int p1)])) _
                              refine XS.icmpNo X0.here hx rfl (hb hby d1_116) rfl (teq hc39).2 ?_
                              show Steps p.tables e below (s₁.setTop (mkF m 119 _ [])) _
                              refine st40 _ ?_
                              show Steps p.tables e below (T40.setTop (mkF m 122 #[.val (.int p1)] [(.ref w_HIJRAH_DATE)])) _
                              jvm_step X40.here [X40.here.top, hx, (hb hby d1_122), X40.method', Bd.returns, Value.isRef, FieldType.isReference]
                              first | (intro acts; rw [hr _ acts rfl rfl rfl]) | rw [hr _ _ rfl rfl rfl]
                              exact Steps.refl _
                            · show Q1 Z p1 w_DATE w_CALENDAR w_INSTANT w_LOCAL_DATE w_LOCAL_DATE_TIME w_LOCAL_TIME w_MONTH_DAY w_OFFSET_DATE_TIME w_OFFSET_TIME w_YEAR w_YEAR_MONTH w_ZONED_DATE_TIME w_HIJRAH_DATE w_JAPANESE_DATE w_MINGUO_DATE w_THAI_BUDDHIST_DATE h0 n0 _ T40.heap _
                              rw [e40]
                              exact ⟨congrArg (fun z => some (Value.ref z)) (by rw [f1, if_neg hc3, if_neg hc6, if_neg hc9, if_neg hc12, if_neg hc15, if_neg hc18, if_neg hc21, if_neg hc24, if_neg hc27, if_neg hc30, if_neg hc33, if_neg hc36, if_pos hc39] : f1 p1 w_DATE w_CALENDAR w_INSTANT w_LOCAL_DATE w_LOCAL_DATE_TIME w_LOCAL_TIME w_MONTH_DAY w_OFFSET_DATE_TIME w_OFFSET_TIME w_YEAR w_YEAR_MONTH w_ZONED_DATE_TIME w_HIJRAH_DATE w_JAPANESE_DATE w_MINGUO_DATE w_THAI_BUDDHIST_DATE = w_HIJRAH_DATE).symm, N0, rfl⟩
                          · skip
                            have pre41 : ∀ t, Steps p.tables e below (s₁.setTop (mkF m 126 #[.val (.int p1)] [(.int (13 : Int32)), (.int p1)])) t → Steps p.tables e below (s₁.setTop (entryFrame m #[(.int p1)] 1)) t := fun t kt => by
                              refine pre38 _ ?_
                              show Steps p.tables e below (s₁.setTop (mkF m 116 #[.val (.int p1)] [(.int (12 : Int32)), (.int p1)])) _
                              refine XS.icmpYes X0.here hx rfl (pc0 := 116) (pc' := 123) rfl (hb hby d1_116) rfl (feq hc39).2 (by decide) (by decide) ?_
                              show Steps p.tables e below (s₁.setTop (mkF m 123 _ [])) _
                              refine XS.iloadN X0.here hx rfl (hb hby d1_123) rfl ?_
                              show Steps p.tables e below (s₁.setTop (mkF m 124 _ [(.int p1)])) _
                              refine XS.bipush X0.here hx rfl (hb hby d1_124) ?_
                              exact kt
                            by_cases hc42 : p1 = (13 : Int32)
                            · skip
                              obtain ⟨T43, X43, e43, st43⟩ := getS2 X0 hx hZ hown (host := "") (Or.inl (hw _ (List.mem_of_getElem? (i := 42) rfl))) Via.refl e0 S_JAPANESE_DATE (g := (mkF m 129 #[.val (.int p1)] [])) rfl (hb hby d1_129)
                              obtain ⟨fs, hr, hrun, hended, hW, hsame⟩ := X43.leave (v := some (.ref w_JAPANESE_DATE)) (fun h => by rw [Bd.returns] at h; cases h) (by first | exact BodyLoose.notSynchronized Bd | exact Body.notSynchronized Bd)
                              refine ⟨_, _, pre41 _ ?_, hrun, hended, _, _, rfl, ?_, ⟨_, rfl⟩, hW, hsame.mono (by decide) (by decide)⟩
                              · show Steps p.tables e below (s₁.setTop (mkF m 126 #[.val (.int p1)] [(.int (13 : Int32)), (.int p1)])) _
                                refine XS.icmpNo X0.here hx rfl (hb hby d1_126) rfl (teq hc42).2 ?_
                                show Steps p.tables e below (s₁.setTop (mkF m 129 _ [])) _
                                refine st43 _ ?_
                                show Steps p.tables e below (T43.setTop (mkF m 132 #[.val (.int p1)] [(.ref w_JAPANESE_DATE)])) _
                                jvm_step X43.here [X43.here.top, hx, (hb hby d1_132), X43.method', Bd.returns, Value.isRef, FieldType.isReference]
                                first | (intro acts; rw [hr _ acts rfl rfl rfl]) | rw [hr _ _ rfl rfl rfl]
                                exact Steps.refl _
                              · show Q1 Z p1 w_DATE w_CALENDAR w_INSTANT w_LOCAL_DATE w_LOCAL_DATE_TIME w_LOCAL_TIME w_MONTH_DAY w_OFFSET_DATE_TIME w_OFFSET_TIME w_YEAR w_YEAR_MONTH w_ZONED_DATE_TIME w_HIJRAH_DATE w_JAPANESE_DATE w_MINGUO_DATE w_THAI_BUDDHIST_DATE h0 n0 _ T43.heap _
                                rw [e43]
                                exact ⟨congrArg (fun z => some (Value.ref z)) (by rw [f1, if_neg hc3, if_neg hc6, if_neg hc9, if_neg hc12, if_neg hc15, if_neg hc18, if_neg hc21, if_neg hc24, if_neg hc27, if_neg hc30, if_neg hc33, if_neg hc36, if_neg hc39, if_pos hc42] : f1 p1 w_DATE w_CALENDAR w_INSTANT w_LOCAL_DATE w_LOCAL_DATE_TIME w_LOCAL_TIME w_MONTH_DAY w_OFFSET_DATE_TIME w_OFFSET_TIME w_YEAR w_YEAR_MONTH w_ZONED_DATE_TIME w_HIJRAH_DATE w_JAPANESE_DATE w_MINGUO_DATE w_THAI_BUDDHIST_DATE = w_JAPANESE_DATE).symm, N0, rfl⟩
                            · skip
                              have pre44 : ∀ t, Steps p.tables e below (s₁.setTop (mkF m 136 #[.val (.int p1)] [(.int (14 : Int32)), (.int p1)])) t → Steps p.tables e below (s₁.setTop (entryFrame m #[(.int p1)] 1)) t := fun t kt => by
                                refine pre41 _ ?_
                                show Steps p.tables e below (s₁.setTop (mkF m 126 #[.val (.int p1)] [(.int (13 : Int32)), (.int p1)])) _
                                refine XS.icmpYes X0.here hx rfl (pc0 := 126) (pc' := 133) rfl (hb hby d1_126) rfl (feq hc42).2 (by decide) (by decide) ?_
                                show Steps p.tables e below (s₁.setTop (mkF m 133 _ [])) _
                                refine XS.iloadN X0.here hx rfl (hb hby d1_133) rfl ?_
                                show Steps p.tables e below (s₁.setTop (mkF m 134 _ [(.int p1)])) _
                                refine XS.bipush X0.here hx rfl (hb hby d1_134) ?_
                                exact kt
                              by_cases hc45 : p1 = (14 : Int32)
                              · skip
                                obtain ⟨T46, X46, e46, st46⟩ := getS2 X0 hx hZ hown (host := "") (Or.inl (hw _ (List.mem_of_getElem? (i := 23) rfl))) Via.refl e0 S_MINGUO_DATE (g := (mkF m 139 #[.val (.int p1)] [])) rfl (hb hby d1_139)
                                obtain ⟨fs, hr, hrun, hended, hW, hsame⟩ := X46.leave (v := some (.ref w_MINGUO_DATE)) (fun h => by rw [Bd.returns] at h; cases h) (by first | exact BodyLoose.notSynchronized Bd | exact Body.notSynchronized Bd)
                                refine ⟨_, _, pre44 _ ?_, hrun, hended, _, _, rfl, ?_, ⟨_, rfl⟩, hW, hsame.mono (by decide) (by decide)⟩
                                · show Steps p.tables e below (s₁.setTop (mkF m 136 #[.val (.int p1)] [(.int (14 : Int32)), (.int p1)])) _
                                  refine XS.icmpNo X0.here hx rfl (hb hby d1_136) rfl (teq hc45).2 ?_
                                  show Steps p.tables e below (s₁.setTop (mkF m 139 _ [])) _
                                  refine st46 _ ?_
                                  show Steps p.tables e below (T46.setTop (mkF m 142 #[.val (.int p1)] [(.ref w_MINGUO_DATE)])) _
                                  jvm_step X46.here [X46.here.top, hx, (hb hby d1_142), X46.method', Bd.returns, Value.isRef, FieldType.isReference]
                                  first | (intro acts; rw [hr _ acts rfl rfl rfl]) | rw [hr _ _ rfl rfl rfl]
                                  exact Steps.refl _
                                · show Q1 Z p1 w_DATE w_CALENDAR w_INSTANT w_LOCAL_DATE w_LOCAL_DATE_TIME w_LOCAL_TIME w_MONTH_DAY w_OFFSET_DATE_TIME w_OFFSET_TIME w_YEAR w_YEAR_MONTH w_ZONED_DATE_TIME w_HIJRAH_DATE w_JAPANESE_DATE w_MINGUO_DATE w_THAI_BUDDHIST_DATE h0 n0 _ T46.heap _
                                  rw [e46]
                                  exact ⟨congrArg (fun z => some (Value.ref z)) (by rw [f1, if_neg hc3, if_neg hc6, if_neg hc9, if_neg hc12, if_neg hc15, if_neg hc18, if_neg hc21, if_neg hc24, if_neg hc27, if_neg hc30, if_neg hc33, if_neg hc36, if_neg hc39, if_neg hc42, if_pos hc45] : f1 p1 w_DATE w_CALENDAR w_INSTANT w_LOCAL_DATE w_LOCAL_DATE_TIME w_LOCAL_TIME w_MONTH_DAY w_OFFSET_DATE_TIME w_OFFSET_TIME w_YEAR w_YEAR_MONTH w_ZONED_DATE_TIME w_HIJRAH_DATE w_JAPANESE_DATE w_MINGUO_DATE w_THAI_BUDDHIST_DATE = w_MINGUO_DATE).symm, N0, rfl⟩
                              · skip
                                obtain ⟨T47, X47, e47, st47⟩ := getS2 X0 hx hZ hown (host := "") (Or.inl (hw _ (List.mem_of_getElem? (i := 25) rfl))) Via.refl e0 S_THAI_BUDDHIST_DATE (g := (mkF m 143 #[.val (.int p1)] [])) rfl (hb hby d1_143)
                                obtain ⟨fs, hr, hrun, hended, hW, hsame⟩ := X47.leave (v := some (.ref w_THAI_BUDDHIST_DATE)) (fun h => by rw [Bd.returns] at h; cases h) (by first | exact BodyLoose.notSynchronized Bd | exact Body.notSynchronized Bd)
                                refine ⟨_, _, pre44 _ ?_, hrun, hended, _, _, rfl, ?_, ⟨_, rfl⟩, hW, hsame.mono (by decide) (by decide)⟩
                                · show Steps p.tables e below (s₁.setTop (mkF m 136 #[.val (.int p1)] [(.int (14 : Int32)), (.int p1)])) _
                                  refine XS.icmpYes X0.here hx rfl (pc0 := 136) (pc' := 143) rfl (hb hby d1_136) rfl (feq hc45).2 (by decide) (by decide) ?_
                                  show Steps p.tables e below (s₁.setTop (mkF m 143 _ [])) _
                                  refine st47 _ ?_
                                  show Steps p.tables e below (T47.setTop (mkF m 146 #[.val (.int p1)] [(.ref w_THAI_BUDDHIST_DATE)])) _
                                  jvm_step X47.here [X47.here.top, hx, (hb hby d1_146), X47.method', Bd.returns, Value.isRef, FieldType.isReference]
                                  first | (intro acts; rw [hr _ acts rfl rfl rfl]) | rw [hr _ _ rfl rfl rfl]
                                  exact Steps.refl _
                                · show Q1 Z p1 w_DATE w_CALENDAR w_INSTANT w_LOCAL_DATE w_LOCAL_DATE_TIME w_LOCAL_TIME w_MONTH_DAY w_OFFSET_DATE_TIME w_OFFSET_TIME w_YEAR w_YEAR_MONTH w_ZONED_DATE_TIME w_HIJRAH_DATE w_JAPANESE_DATE w_MINGUO_DATE w_THAI_BUDDHIST_DATE h0 n0 _ T47.heap _
                                  rw [e47]
                                  exact ⟨congrArg (fun z => some (Value.ref z)) (by rw [f1, if_neg hc3, if_neg hc6, if_neg hc9, if_neg hc12, if_neg hc15, if_neg hc18, if_neg hc21, if_neg hc24, if_neg hc27, if_neg hc30, if_neg hc33, if_neg hc36, if_neg hc39, if_neg hc42, if_neg hc45] : f1 p1 w_DATE w_CALENDAR w_INSTANT w_LOCAL_DATE w_LOCAL_DATE_TIME w_LOCAL_TIME w_MONTH_DAY w_OFFSET_DATE_TIME w_OFFSET_TIME w_YEAR w_YEAR_MONTH w_ZONED_DATE_TIME w_HIJRAH_DATE w_JAPANESE_DATE w_MINGUO_DATE w_THAI_BUDDHIST_DATE = w_THAI_BUDDHIST_DATE).symm, N0, rfl⟩
theorem d2_0 : decode prog_62_method_10_code 0 = .ok (.aload_n 0, 1) := by decide +kernel
theorem d2_1 : decode prog_62_method_10_code 1 = .ok (.getstatic 19, 3) := by decide +kernel
theorem d2_4 : decode prog_62_method_10_code 4 = .ok (.if_acmp .eq 17, 3) := by decide +kernel
theorem d2_7 : decode prog_62_method_10_code 7 = .ok (.aload_n 0, 1) := by decide +kernel
theorem d2_8 : decode prog_62_method_10_code 8 = .ok (.getstatic 28, 3) := by decide +kernel
theorem d2_11 : decode prog_62_method_10_code 11 = .ok (.if_acmp .eq 10, 3) := by decide +kernel
theorem d2_14 : decode prog_62_method_10_code 14 = .ok (.aload_n 0, 1) := by decide +kernel
theorem d2_15 : decode prog_62_method_10_code 15 = .ok (.getstatic 22, 3) := by decide +kernel
theorem d2_18 : decode prog_62_method_10_code 18 = .ok (.if_acmp .ne 7, 3) := by decide +kernel
theorem d2_21 : decode prog_62_method_10_code 21 = .ok (.iconst 1, 1) := by decide +kernel
theorem d2_22 : decode prog_62_method_10_code 22 = .ok (.goto 4, 3) := by decide +kernel
theorem d2_25 : decode prog_62_method_10_code 25 = .ok (.iconst 0, 1) := by decide +kernel
theorem d2_26 : decode prog_62_method_10_code 26 = .ok (.ireturn, 1) := by decide +kernel
theorem pn_2 : plainName "com/example/boundsmith/boundsmith/internal/TimeType" = true := by first | (simp [plainName, overriddenIn]; done) | decide +kernel
theorem ef_2 (m : MethodId) (x0 : Addr) : entryFrame m #[(.ref x0)] 1 = mkF m 0 #[.val (.ref x0)] [] := by first | (simp [entryFrame, mkF, argsToLocals, Value.category]; done) | rfl
def f2 (a1 : Addr) (w_LOCAL_TIME : Addr) (w_OFFSET_TIME : Addr) (w_MONTH_DAY : Addr) : Int32 := (if a1 = w_LOCAL_TIME then (1 : Int32) else (if a1 = w_OFFSET_TIME then (1 : Int32) else (if a1 = w_MONTH_DAY then (1 : Int32) else (0 : Int32))))
def Q2 (Z : State) (a1 : Addr) (w_LOCAL_TIME : Addr) (w_OFFSET_TIME : Addr) (w_MONTH_DAY : Addr) (h0 : Heap) (n0 : Nat) (v : Option Value) (h : Heap) (L : List Loc) : Prop := v = some (.int (f2 a1 w_LOCAL_TIME w_OFFSET_TIME w_MONTH_DAY)) ∧ Fr n0 L ∧ h = h0
set_option maxRecDepth 65536 in
set_option maxHeartbeats 40000000 in
theorem rm2 (l : Launch) (Z : State) (a0 : Array Value) (hw : ∀ d ∈ tables_1, d.before a0 Z = true) (ws : List Jvm.Cond) (a1 : Addr) (w_LOCAL_TIME : Addr) (w_OFFSET_TIME : Addr) (w_MONTH_DAY : Addr) (h0 : Heap) (n0 : Nat) (Z0 : n0 ≤ h0.size) (S_LOCAL_TIME : Sta Z h0 "com/example/boundsmith/boundsmith/internal/TimeType" "LOCAL_TIME" "Lcom/example/boundsmith/boundsmith/internal/TimeType;" (.ref w_LOCAL_TIME)) (S_OFFSET_TIME : Sta Z h0 "com/example/boundsmith/boundsmith/internal/TimeType" "OFFSET_TIME" "Lcom/example/boundsmith/boundsmith/internal/TimeType;" (.ref w_OFFSET_TIME)) (S_MONTH_DAY : Sta Z h0 "com/example/boundsmith/boundsmith/internal/TimeType" "MONTH_DAY" "Lcom/example/boundsmith/boundsmith/internal/TimeType;" (.ref w_MONTH_DAY)) :
    MetFree l (⟨"com/example/boundsmith/boundsmith/internal/TimeType", "repeats", "()Z"⟩ : MethodName) (head1 (Jvm.Cond.code (⟨"com/example/boundsmith/boundsmith/internal/TimeType", "repeats", "()Z"⟩ : MethodName) prog_62_method_10_code 1 (some .boolean) :: ws) ({ frames := 0, cells := 0, slots := 0, locals := 0 } : Room)) (fun a U => a = #[(.ref a1)] ∧ Z.Warmed39 U.vm ∧ U.heap = h0) (fun _ _ _ _ _ => True) (fun _ U o U' => ∃ v L, o = .returned v ∧ Q2 Z a1 w_LOCAL_TIME w_OFFSET_TIME w_MONTH_DAY h0 n0 v U'.heap L ∧ FrameEnd U o U' L ({ frames := 0, cells := 0, slots := 0, locals := 0 } : Room).cells ({ frames := 0, cells := 0, slots := 0, locals := 0 } : Room).slots) := by
  refine MetFree.of_bodySF (plainFor_of_name pn_2) hisR ?_
  intro p e s m args below meth c s₁ Bd hml0 hP hK
  obtain ⟨rfl, hZ, hh⟩ := hP
  have hx := Bd.exec
  have hby := Bd.bytes
  have hml : c.maxLocals = 1 := hml0
  have hown : s.vm.findClass "com/example/boundsmith/boundsmith/internal/TimeType" = some m.cls := findClass_of_methodNamed Bd.named
  have hnm := (name_of_methodNamed Bd.named Bd.method).1
  have X0 : Stand p l e ({ frames := 0, cells := 0, slots := 0, locals := 0 } : Room) s m #[(.ref a1)] below meth c s₁ [] 0 0 := Stand.of_body Bd
  have e0 : s₁.heap = h0 := by rw [← hh, Bd.state]; rfl
  have N0 := Fr.nil n0
  have pre0 : ∀ t, Steps p.tables e below (s₁.setTop (mkF m 0 #[.val (.ref a1)] [])) t → Steps p.tables e below (s₁.setTop (entryFrame m #[(.ref a1)] 1)) t := fun t k => castTop (ef_2 m a1) k
  obtain ⟨T2, X2, e2, st2⟩ := getS2 X0 hx hZ hown (host := "") (Or.inl (hw _ (List.mem_of_getElem? (i := 12) rfl))) Via.refl e0 S_LOCAL_TIME (g := (mkF m 1 #[.val (.ref a1)] [(.ref a1)])) rfl (hb hby d2_1)
  have pre3 : ∀ t, Steps p.tables e below (T2.setTop (mkF m 4 #[.val (.ref a1)] [(.ref w_LOCAL_TIME), (.ref a1)])) t → Steps p.tables e below (s₁.setTop (entryFrame m #[(.ref a1)] 1)) t := fun t kt => by
    refine pre0 _ ?_
    show Steps p.tables e below (s₁.setTop (mkF m 0 #[.val (.ref a1)] [])) _
    refine XS.aloadN X0.here hx rfl (hb hby d2_0) rfl rfl ?_
    show Steps p.tables e below (s₁.setTop (mkF m 1 _ [(.ref a1)])) _
    refine st2 _ ?_
    exact kt
  by_cases hc4 : a1 = w_LOCAL_TIME
  · skip
    obtain ⟨fs, hr, hrun, hended, hW, hsame⟩ := X2.leave (v := some (.int (1 : Int32))) (fun h => by rw [Bd.returns] at h; cases h) (by first | exact BodyLoose.notSynchronized Bd | exact Body.notSynchronized Bd)
    refine ⟨_, _, pre3 _ ?_, hrun, hended, _, _, rfl, ?_, ⟨_, rfl⟩, hW, hsame.mono (by decide) (by decide)⟩
    · show Steps p.tables e below (T2.setTop (mkF m 4 #[.val (.ref a1)] [(.ref w_LOCAL_TIME), (.ref a1)])) _
      refine Jvm.RoadKit.acmp (g := (mkF m 4 #[.val (.ref a1)] [(.ref w_LOCAL_TIME), (.ref a1)])) X2 hx rfl rfl rfl (pc0 := 4) (pc' := 21) (same := true) rfl (hb hby d2_4) rfl (decide_eq_true (congrArg Value.ref hc4)) (by decide) (by decide) ?_
      show Steps p.tables e below (T2.setTop (mkF m 21 _ [])) _
      refine XS.iconst X2.here hx rfl (hb hby d2_21) ?_
      show Steps p.tables e below (T2.setTop (mkF m 22 _ [(.int (1 : Int32))])) _
      refine XS.goto X2.here hx rfl (pc0 := 22) (pc' := 26) rfl (hb hby d2_22) (by decide) (by decide) ?_
      show Steps p.tables e below (T2.setTop (mkF m 26 #[.val (.ref a1)] [(.int (1 : Int32))])) _
      exact retN X2 hx (t := .boolean) Bd.returns (by simp) (hb hby d2_26) hr
    · show Q2 Z a1 w_LOCAL_TIME w_OFFSET_TIME w_MONTH_DAY h0 n0 _ T2.heap _
      rw [e2]
      exact ⟨congrArg (fun z => some (Value.int z)) (by rw [f2, if_pos hc4] : f2 a1 w_LOCAL_TIME w_OFFSET_TIME w_MONTH_DAY = (1 : Int32)).symm, N0, rfl⟩
  · skip
    obtain ⟨T5, X5, e5, st5⟩ := getS2 X2 hx hZ hown (host := "") (Or.inl (hw _ (List.mem_of_getElem? (i := 14) rfl))) Via.refl e2 S_OFFSET_TIME (g := (mkF m 8 #[.val (.ref a1)] [(.ref a1)])) rfl (hb hby d2_8)
    have pre6 : ∀ t, Steps p.tables e below (T5.setTop (mkF m 11 #[.val (.ref a1)] [(.ref w_OFFSET_TIME), (.ref a1)])) t → Steps p.tables e below (s₁.setTop (entryFrame m #[(.ref a1)] 1)) t := fun t kt => by
      refine pre3 _ ?_
      show Steps p.tables e below (T2.setTop (mkF m 4 #[.val (.ref a1)] [(.ref w_LOCAL_TIME), (.ref a1)])) _
      refine Jvm.RoadKit.acmp (g := (mkF m 4 #[.val (.ref a1)] [(.ref w_LOCAL_TIME), (.ref a1)])) X2 hx rfl rfl rfl (pc0 := 4) (pc' := 7) (same := false) rfl (hb hby d2_4) rfl (decide_eq_false fun q => hc4 (Value.ref.inj q)) (by decide) (by decide) ?_
      show Steps p.tables e below (T2.setTop (mkF m 7 _ [])) _
      refine XS.aloadN X2.here hx rfl (hb hby d2_7) rfl rfl ?_
      show Steps p.tables e below (T2.setTop (mkF m 8 _ [(.ref a1)])) _
      refine st5 _ ?_
      exact kt
    by_cases hc7 : a1 = w_OFFSET_TIME
    · skip
      obtain ⟨fs, hr, hrun, hended, hW, hsame⟩ := X5.leave (v := some (.int (1 : Int32))) (fun h => by rw [Bd.returns] at h; cases h) (by first | exact BodyLoose.notSynchronized Bd | exact Body.notSynchronized Bd)
      refine ⟨_, _, pre6 _ ?_, hrun, hended, _, _, rfl, ?_, ⟨_, rfl⟩, hW, hsame.mono (by decide) (by decide)⟩
      · show Steps p.tables e below (T5.setTop (mkF m 11 #[.val (.ref a1)] [(.ref w_OFFSET_TIME), (.ref a1)])) _
        refine Jvm.RoadKit.acmp (g := (mkF m 11 #[.val (.ref a1)] [(.ref w_OFFSET_TIME), (.ref a1)])) X5 hx rfl rfl rfl (pc0 := 11) (pc' := 21) (same := true) rfl (hb hby d2_11) rfl (decide_eq_true (congrArg Value.ref hc7)) (by decide) (by decide) ?_
        show Steps p.tables e below (T5.setTop (mkF m 21 _ [])) _
        refine XS.iconst X5.here hx rfl (hb hby d2_21) ?_
        show Steps p.tables e below (T5.setTop (mkF m 22 _ [(.int (1 : Int32))])) _
        refine XS.goto X5.here hx rfl (pc0 := 22) (pc' := 26) rfl (hb hby d2_22) (by decide) (by decide) ?_
        show Steps p.tables e below (T5.setTop (mkF m 26 #[.val (.ref a1)] [(.int (1 : Int32))])) _
        exact retN X5 hx (t := .boolean) Bd.returns (by simp) (hb hby d2_26) hr
      · show Q2 Z a1 w_LOCAL_TIME w_OFFSET_TIME w_MONTH_DAY h0 n0 _ T5.heap _
        rw [e5]
        exact ⟨congrArg (fun z => some (Value.int z)) (by rw [f2, if_neg hc4, if_pos hc7] : f2 a1 w_LOCAL_TIME w_OFFSET_TIME w_MONTH_DAY = (1 : Int32)).symm, N0, rfl⟩
    · skip
      obtain ⟨T8, X8, e8, st8⟩ := getS2 X5 hx hZ hown (host := "") (Or.inl (hw _ (List.mem_of_getElem? (i := 16) rfl))) Via.refl e5 S_MONTH_DAY (g := (mkF m 15 #[.val (.ref a1)] [(.ref a1)])) rfl (hb hby d2_15)
      have pre9 : ∀ t, Steps p.tables e below (T8.setTop (mkF m 18 #[.val (.ref a1)] [(.ref w_MONTH_DAY), (.ref a1)])) t → Steps p.tables e below (s₁.setTop (entryFrame m #[(.ref a1)] 1)) t := fun t kt => by
        refine pre6 _ ?_
        show Steps p.tables e below (T5.setTop (mkF m 11 #[.val (.ref a1)] [(.ref w_OFFSET_TIME), (.ref a1)])) _
        refine Jvm.RoadKit.acmp (g := (mkF m 11 #[.val (.ref a1)] [(.ref w_OFFSET_TIME), (.ref a1)])) X5 hx rfl rfl rfl (pc0 := 11) (pc' := 14) (same := false) rfl (hb hby d2_11) rfl (decide_eq_false fun q => hc7 (Value.ref.inj q)) (by decide) (by decide) ?_
        show Steps p.tables e below (T5.setTop (mkF m 14 _ [])) _
        refine XS.aloadN X5.here hx rfl (hb hby d2_14) rfl rfl ?_
        show Steps p.tables e below (T5.setTop (mkF m 15 _ [(.ref a1)])) _
        refine st8 _ ?_
        exact kt
      by_cases hc10 : a1 = w_MONTH_DAY
      · skip
        obtain ⟨fs, hr, hrun, hended, hW, hsame⟩ := X8.leave (v := some (.int (1 : Int32))) (fun h => by rw [Bd.returns] at h; cases h) (by first | exact BodyLoose.notSynchronized Bd | exact Body.notSynchronized Bd)
        refine ⟨_, _, pre9 _ ?_, hrun, hended, _, _, rfl, ?_, ⟨_, rfl⟩, hW, hsame.mono (by decide) (by decide)⟩
        · show Steps p.tables e below (T8.setTop (mkF m 18 #[.val (.ref a1)] [(.ref w_MONTH_DAY), (.ref a1)])) _
          refine Jvm.RoadKit.acmp (g := (mkF m 18 #[.val (.ref a1)] [(.ref w_MONTH_DAY), (.ref a1)])) X8 hx rfl rfl rfl (pc0 := 18) (pc' := 21) (same := true) rfl (hb hby d2_18) rfl (decide_eq_true (congrArg Value.ref hc10)) (by decide) (by decide) ?_
          show Steps p.tables e below (T8.setTop (mkF m 21 _ [])) _
          refine XS.iconst X8.here hx rfl (hb hby d2_21) ?_
          show Steps p.tables e below (T8.setTop (mkF m 22 _ [(.int (1 : Int32))])) _
          refine XS.goto X8.here hx rfl (pc0 := 22) (pc' := 26) rfl (hb hby d2_22) (by decide) (by decide) ?_
          show Steps p.tables e below (T8.setTop (mkF m 26 #[.val (.ref a1)] [(.int (1 : Int32))])) _
          exact retN X8 hx (t := .boolean) Bd.returns (by simp) (hb hby d2_26) hr
        · show Q2 Z a1 w_LOCAL_TIME w_OFFSET_TIME w_MONTH_DAY h0 n0 _ T8.heap _
          rw [e8]
          exact ⟨congrArg (fun z => some (Value.int z)) (by rw [f2, if_neg hc4, if_neg hc7, if_pos hc10] : f2 a1 w_LOCAL_TIME w_OFFSET_TIME w_MONTH_DAY = (1 : Int32)).symm, N0, rfl⟩
      · skip
        obtain ⟨fs, hr, hrun, hended, hW, hsame⟩ := X8.leave (v := some (.int (0 : Int32))) (fun h => by rw [Bd.returns] at h; cases h) (by first | exact BodyLoose.notSynchronized Bd | exact Body.notSynchronized Bd)
        refine ⟨_, _, pre9 _ ?_, hrun, hended, _, _, rfl, ?_, ⟨_, rfl⟩, hW, hsame.mono (by decide) (by decide)⟩
        · show Steps p.tables e below (T8.setTop (mkF m 18 #[.val (.ref a1)] [(.ref w_MONTH_DAY), (.ref a1)])) _
          refine Jvm.RoadKit.acmp (g := (mkF m 18 #[.val (.ref a1)] [(.ref w_MONTH_DAY), (.ref a1)])) X8 hx rfl rfl rfl (pc0 := 18) (pc' := 25) (same := false) rfl (hb hby d2_18) rfl (decide_eq_false fun q => hc10 (Value.ref.inj q)) (by decide) (by decide) ?_
          show Steps p.tables e below (T8.setTop (mkF m 25 _ [])) _
          refine XS.iconst X8.here hx rfl (hb hby d2_25) ?_
          show Steps p.tables e below (T8.setTop (mkF m 26 #[.val (.ref a1)] [(.int (0 : Int32))])) _
          exact retN X8 hx (t := .boolean) Bd.returns (by simp) (hb hby d2_26) hr
        · show Q2 Z a1 w_LOCAL_TIME w_OFFSET_TIME w_MONTH_DAY h0 n0 _ T8.heap _
          rw [e8]
          exact ⟨congrArg (fun z => some (Value.int z)) (by rw [f2, if_neg hc4, if_neg hc7, if_neg hc10] : f2 a1 w_LOCAL_TIME w_OFFSET_TIME w_MONTH_DAY = (0 : Int32)).symm, N0, rfl⟩
theorem d3_0 : decode method_3_code 0 = .ok (.iload_n 0, 1) := by decide +kernel
theorem d3_1 : decode method_3_code 1 = .ok (.iconst 5, 1) := by decide +kernel
theorem d3_2 : decode method_3_code 2 = .ok (.if_icmp .ne 5, 3) := by decide +kernel
theorem d3_5 : decode method_3_code 5 = .ok (.iconst 1, 1) := by decide +kernel
theorem d3_6 : decode method_3_code 6 = .ok (.ireturn, 1) := by decide +kernel
theorem d3_7 : decode method_3_code 7 = .ok (.iload_n 0, 1) := by decide +kernel
theorem d3_8 : decode method_3_code 8 = .ok (.bipush 8, 2) := by decide +kernel
theorem d3_10 : decode method_3_code 10 = .ok (.if_icmp .ne 5, 3) := by decide +kernel
theorem d3_13 : decode method_3_code 13 = .ok (.iconst 1, 1) := by decide +kernel
theorem d3_14 : decode method_3_code 14 = .ok (.ireturn, 1) := by decide +kernel
theorem d3_15 : decode method_3_code 15 = .ok (.iload_n 0, 1) := by decide +kernel
theorem d3_16 : decode method_3_code 16 = .ok (.bipush 6, 2) := by decide +kernel
theorem d3_18 : decode method_3_code 18 = .ok (.if_icmp .ne 5, 3) := by decide +kernel
theorem d3_21 : decode method_3_code 21 = .ok (.iconst 1, 1) := by decide +kernel
theorem d3_22 : decode method_3_code 22 = .ok (.ireturn, 1) := by decide +kernel
theorem d3_23 : decode method_3_code 23 = .ok (.iconst 0, 1) := by decide +kernel
theorem d3_24 : decode method_3_code 24 = .ok (.ireturn, 1) := by decide +kernel
theorem pn_3 : plainName "com/example/boundsmith/boundsmith/internal/TimeTypeRepeatsPinLaw" = true := by first | (simp [plainName, overriddenIn]; done) | decide +kernel
theorem ef_3 (m : MethodId) (x0 : Int32) : entryFrame m #[(.int x0)] 1 = mkF m 0 #[.val (.int x0)] [] := by first | (simp [entryFrame, mkF, argsToLocals, Value.category]; done) | rfl
def f3 (p1 : Int32) : Int32 := (if p1 = (5 : Int32) then (1 : Int32) else (if p1 = (8 : Int32) then (1 : Int32) else (if p1 = (6 : Int32) then (1 : Int32) else (0 : Int32))))
def Q3 (Z : State) (p1 : Int32) (h0 : Heap) (n0 : Nat) (v : Option Value) (h : Heap) (L : List Loc) : Prop := v = some (.int (f3 p1)) ∧ Fr n0 L ∧ h = h0
set_option maxRecDepth 65536 in
set_option maxHeartbeats 40000000 in
theorem rm3 (l : Launch) (Z : State) (a0 : Array Value) (hw : ∀ d ∈ tables_1, d.before a0 Z = true) (ws : List Jvm.Cond) (p1 : Int32) (h0 : Heap) (n0 : Nat) (Z0 : n0 ≤ h0.size) :
    MetFree l (⟨"com/example/boundsmith/boundsmith/internal/TimeTypeRepeatsPinLaw", "cyclic", "(I)Z"⟩ : MethodName) (head1 (Jvm.Cond.code (⟨"com/example/boundsmith/boundsmith/internal/TimeTypeRepeatsPinLaw", "cyclic", "(I)Z"⟩ : MethodName) method_3_code 1 (some .boolean) :: ws) ({ frames := 0, cells := 0, slots := 0, locals := 0 } : Room)) (fun a U => a = #[(.int p1)] ∧ Z.Warmed39 U.vm ∧ U.heap = h0) (fun _ _ _ _ _ => True) (fun _ U o U' => ∃ v L, o = .returned v ∧ Q3 Z p1 h0 n0 v U'.heap L ∧ FrameEnd U o U' L ({ frames := 0, cells := 0, slots := 0, locals := 0 } : Room).cells ({ frames := 0, cells := 0, slots := 0, locals := 0 } : Room).slots) := by
  refine MetFree.of_bodySF (plainFor_of_name pn_3) hisR ?_
  intro p e s m args below meth c s₁ Bd hml0 hP hK
  obtain ⟨rfl, hZ, hh⟩ := hP
  have hx := Bd.exec
  have hby := Bd.bytes
  have hml : c.maxLocals = 1 := hml0
  have hown : s.vm.findClass "com/example/boundsmith/boundsmith/internal/TimeTypeRepeatsPinLaw" = some m.cls := findClass_of_methodNamed Bd.named
  have hnm := (name_of_methodNamed Bd.named Bd.method).1
  have X0 : Stand p l e ({ frames := 0, cells := 0, slots := 0, locals := 0 } : Room) s m #[(.int p1)] below meth c s₁ [] 0 0 := Stand.of_body Bd
  have e0 : s₁.heap = h0 := by rw [← hh, Bd.state]; rfl
  have N0 := Fr.nil n0
  have pre0 : ∀ t, Steps p.tables e below (s₁.setTop (mkF m 0 #[.val (.int p1)] [])) t → Steps p.tables e below (s₁.setTop (entryFrame m #[(.int p1)] 1)) t := fun t k => castTop (ef_3 m p1) k
  have pre2 : ∀ t, Steps p.tables e below (s₁.setTop (mkF m 2 #[.val (.int p1)] [(.int (5 : Int32)), (.int p1)])) t → Steps p.tables e below (s₁.setTop (entryFrame m #[(.int p1)] 1)) t := fun t kt => by
    refine pre0 _ ?_
    show Steps p.tables e below (s₁.setTop (mkF m 0 #[.val (.int p1)] [])) _
    refine XS.iloadN X0.here hx rfl (hb hby d3_0) rfl ?_
    show Steps p.tables e below (s₁.setTop (mkF m 1 _ [(.int p1)])) _
    refine XS.iconst X0.here hx rfl (hb hby d3_1) ?_
    exact kt
  by_cases hc3 : p1 = (5 : Int32)
  · skip
    obtain ⟨fs, hr, hrun, hended, hW, hsame⟩ := X0.leave (v := some (.int (1 : Int32))) (fun h => by rw [Bd.returns] at h; cases h) (by first | exact BodyLoose.notSynchronized Bd | exact Body.notSynchronized Bd)
    refine ⟨_, _, pre2 _ ?_, hrun, hended, _, _, rfl, ?_, ⟨_, rfl⟩, hW, hsame.mono (by decide) (by decide)⟩
    · show Steps p.tables e below (s₁.setTop (mkF m 2 #[.val (.int p1)] [(.int (5 : Int32)), (.int p1)])) _
      refine XS.icmpNo X0.here hx rfl (hb hby d3_2) rfl (teq hc3).2 ?_
      show Steps p.tables e below (s₁.setTop (mkF m 5 _ [])) _
      refine XS.iconst X0.here hx rfl (hb hby d3_5) ?_
      show Steps p.tables e below (s₁.setTop (mkF m 6 #[.val (.int p1)] [(.int (1 : Int32))])) _
      exact retN X0 hx (t := .boolean) Bd.returns (by simp) (hb hby d3_6) hr
    · show Q3 Z p1 h0 n0 _ s₁.heap _
      rw [e0]
      exact ⟨congrArg (fun z => some (Value.int z)) (by rw [f3, if_pos hc3] : f3 p1 = (1 : Int32)).symm, N0, rfl⟩
  · skip
    have pre4 : ∀ t, Steps p.tables e below (s₁.setTop (mkF m 10 #[.val (.int p1)] [(.int (8 : Int32)), (.int p1)])) t → Steps p.tables e below (s₁.setTop (entryFrame m #[(.int p1)] 1)) t := fun t kt => by
      refine pre2 _ ?_
      show Steps p.tables e below (s₁.setTop (mkF m 2 #[.val (.int p1)] [(.int (5 : Int32)), (.int p1)])) _
      refine XS.icmpYes X0.here hx rfl (pc0 := 2) (pc' := 7) rfl (hb hby d3_2) rfl (feq hc3).2 (by decide) (by decide) ?_
      show Steps p.tables e below (s₁.setTop (mkF m 7 _ [])) _
      refine XS.iloadN X0.here hx rfl (hb hby d3_7) rfl ?_
      show Steps p.tables e below (s₁.setTop (mkF m 8 _ [(.int p1)])) _
      refine XS.bipush X0.here hx rfl (hb hby d3_8) ?_
      exact kt
    by_cases hc5 : p1 = (8 : Int32)
    · skip
      obtain ⟨fs, hr, hrun, hended, hW, hsame⟩ := X0.leave (v := some (.int (1 : Int32))) (fun h => by rw [Bd.returns] at h; cases h) (by first | exact BodyLoose.notSynchronized Bd | exact Body.notSynchronized Bd)
      refine ⟨_, _, pre4 _ ?_, hrun, hended, _, _, rfl, ?_, ⟨_, rfl⟩, hW, hsame.mono (by decide) (by decide)⟩
      · show Steps p.tables e below (s₁.setTop (mkF m 10 #[.val (.int p1)] [(.int (8 : Int32)), (.int p1)])) _
        refine XS.icmpNo X0.here hx rfl (hb hby d3_10) rfl (teq hc5).2 ?_
        show Steps p.tables e below (s₁.setTop (mkF m 13 _ [])) _
        refine XS.iconst X0.here hx rfl (hb hby d3_13) ?_
        show Steps p.tables e below (s₁.setTop (mkF m 14 #[.val (.int p1)] [(.int (1 : Int32))])) _
        exact retN X0 hx (t := .boolean) Bd.returns (by simp) (hb hby d3_14) hr
      · show Q3 Z p1 h0 n0 _ s₁.heap _
        rw [e0]
        exact ⟨congrArg (fun z => some (Value.int z)) (by rw [f3, if_neg hc3, if_pos hc5] : f3 p1 = (1 : Int32)).symm, N0, rfl⟩
    · skip
      have pre6 : ∀ t, Steps p.tables e below (s₁.setTop (mkF m 18 #[.val (.int p1)] [(.int (6 : Int32)), (.int p1)])) t → Steps p.tables e below (s₁.setTop (entryFrame m #[(.int p1)] 1)) t := fun t kt => by
        refine pre4 _ ?_
        show Steps p.tables e below (s₁.setTop (mkF m 10 #[.val (.int p1)] [(.int (8 : Int32)), (.int p1)])) _
        refine XS.icmpYes X0.here hx rfl (pc0 := 10) (pc' := 15) rfl (hb hby d3_10) rfl (feq hc5).2 (by decide) (by decide) ?_
        show Steps p.tables e below (s₁.setTop (mkF m 15 _ [])) _
        refine XS.iloadN X0.here hx rfl (hb hby d3_15) rfl ?_
        show Steps p.tables e below (s₁.setTop (mkF m 16 _ [(.int p1)])) _
        refine XS.bipush X0.here hx rfl (hb hby d3_16) ?_
        exact kt
      by_cases hc7 : p1 = (6 : Int32)
      · skip
        obtain ⟨fs, hr, hrun, hended, hW, hsame⟩ := X0.leave (v := some (.int (1 : Int32))) (fun h => by rw [Bd.returns] at h; cases h) (by first | exact BodyLoose.notSynchronized Bd | exact Body.notSynchronized Bd)
        refine ⟨_, _, pre6 _ ?_, hrun, hended, _, _, rfl, ?_, ⟨_, rfl⟩, hW, hsame.mono (by decide) (by decide)⟩
        · show Steps p.tables e below (s₁.setTop (mkF m 18 #[.val (.int p1)] [(.int (6 : Int32)), (.int p1)])) _
          refine XS.icmpNo X0.here hx rfl (hb hby d3_18) rfl (teq hc7).2 ?_
          show Steps p.tables e below (s₁.setTop (mkF m 21 _ [])) _
          refine XS.iconst X0.here hx rfl (hb hby d3_21) ?_
          show Steps p.tables e below (s₁.setTop (mkF m 22 #[.val (.int p1)] [(.int (1 : Int32))])) _
          exact retN X0 hx (t := .boolean) Bd.returns (by simp) (hb hby d3_22) hr
        · show Q3 Z p1 h0 n0 _ s₁.heap _
          rw [e0]
          exact ⟨congrArg (fun z => some (Value.int z)) (by rw [f3, if_neg hc3, if_neg hc5, if_pos hc7] : f3 p1 = (1 : Int32)).symm, N0, rfl⟩
      · skip
        obtain ⟨fs, hr, hrun, hended, hW, hsame⟩ := X0.leave (v := some (.int (0 : Int32))) (fun h => by rw [Bd.returns] at h; cases h) (by first | exact BodyLoose.notSynchronized Bd | exact Body.notSynchronized Bd)
        refine ⟨_, _, pre6 _ ?_, hrun, hended, _, _, rfl, ?_, ⟨_, rfl⟩, hW, hsame.mono (by decide) (by decide)⟩
        · show Steps p.tables e below (s₁.setTop (mkF m 18 #[.val (.int p1)] [(.int (6 : Int32)), (.int p1)])) _
          refine XS.icmpYes X0.here hx rfl (pc0 := 18) (pc' := 23) rfl (hb hby d3_18) rfl (feq hc7).2 (by decide) (by decide) ?_
          show Steps p.tables e below (s₁.setTop (mkF m 23 _ [])) _
          refine XS.iconst X0.here hx rfl (hb hby d3_23) ?_
          show Steps p.tables e below (s₁.setTop (mkF m 24 #[.val (.int p1)] [(.int (0 : Int32))])) _
          exact retN X0 hx (t := .boolean) Bd.returns (by simp) (hb hby d3_24) hr
        · show Q3 Z p1 h0 n0 _ s₁.heap _
          rw [e0]
          exact ⟨congrArg (fun z => some (Value.int z)) (by rw [f3, if_neg hc3, if_neg hc5, if_neg hc7] : f3 p1 = (0 : Int32)).symm, N0, rfl⟩
theorem pn_0 : plainName "com/example/boundsmith/boundsmith/internal/TimeTypeRepeatsPinLaw" = true := by first | (simp [plainName, overriddenIn]; done) | decide +kernel
theorem pd_0_0 : parseMethodDescriptor "(I)Lcom/example/boundsmith/boundsmith/internal/TimeType;" = some ⟨[.int], some (.object "com/example/boundsmith/boundsmith/internal/TimeType")⟩ := by decide +kernel
theorem pd_0_1 : parseMethodDescriptor "()Z" = some ⟨[], some .boolean⟩ := by decide +kernel
theorem pd_0_2 : parseMethodDescriptor "(I)Z" = some ⟨[.int], some .boolean⟩ := by decide +kernel
theorem ef_0 (m : MethodId) (x0 : Int32) : entryFrame m #[(.int x0)] maxLocals = mkF m 0 #[.val (.int x0), .unset, .unset] [] := by first | (simp [entryFrame, mkF, argsToLocals, Value.category, maxLocals]; done) | rfl
def f0 (p1 : Int32) (w_DATE : Addr) (w_CALENDAR : Addr) (w_INSTANT : Addr) (w_LOCAL_DATE : Addr) (w_LOCAL_DATE_TIME : Addr) (w_LOCAL_TIME : Addr) (w_MONTH_DAY : Addr) (w_OFFSET_DATE_TIME : Addr) (w_OFFSET_TIME : Addr) (w_YEAR : Addr) (w_YEAR_MONTH : Addr) (w_ZONED_DATE_TIME : Addr) (w_HIJRAH_DATE : Addr) (w_JAPANESE_DATE : Addr) (w_MINGUO_DATE : Addr) (w_THAI_BUDDHIST_DATE : Addr) : Int32 := (if (f2 (f1 (p1 &&& (15 : Int32)) w_DATE w_CALENDAR w_INSTANT w_LOCAL_DATE w_LOCAL_DATE_TIME w_LOCAL_TIME w_MONTH_DAY w_OFFSET_DATE_TIME w_OFFSET_TIME w_YEAR w_YEAR_MONTH w_ZONED_DATE_TIME w_HIJRAH_DATE w_JAPANESE_DATE w_MINGUO_DATE w_THAI_BUDDHIST_DATE) w_LOCAL_TIME w_OFFSET_TIME w_MONTH_DAY) = (f3 (p1 &&& (15 : Int32))) then (1 : Int32) else (0 : Int32))
def Q0 (Z : State) (p1 : Int32) (w_DATE : Addr) (w_CALENDAR : Addr) (w_INSTANT : Addr) (w_LOCAL_DATE : Addr) (w_LOCAL_DATE_TIME : Addr) (w_LOCAL_TIME : Addr) (w_MONTH_DAY : Addr) (w_OFFSET_DATE_TIME : Addr) (w_OFFSET_TIME : Addr) (w_YEAR : Addr) (w_YEAR_MONTH : Addr) (w_ZONED_DATE_TIME : Addr) (w_HIJRAH_DATE : Addr) (w_JAPANESE_DATE : Addr) (w_MINGUO_DATE : Addr) (w_THAI_BUDDHIST_DATE : Addr) (h0 : Heap) (n0 : Nat) (v : Option Value) (h : Heap) (L : List Loc) : Prop := v = some (.int (f0 p1 w_DATE w_CALENDAR w_INSTANT w_LOCAL_DATE w_LOCAL_DATE_TIME w_LOCAL_TIME w_MONTH_DAY w_OFFSET_DATE_TIME w_OFFSET_TIME w_YEAR w_YEAR_MONTH w_ZONED_DATE_TIME w_HIJRAH_DATE w_JAPANESE_DATE w_MINGUO_DATE w_THAI_BUDDHIST_DATE)) ∧ Fr n0 L
set_option maxRecDepth 65536 in
set_option maxHeartbeats 40000000 in
theorem rm0 (l : Launch) (Z : State) (a0 : Array Value) (hw : ∀ d ∈ tables_1, d.before a0 Z = true) (ws : List Jvm.Cond) (p1 : Int32) (w_DATE : Addr) (w_CALENDAR : Addr) (w_INSTANT : Addr) (w_LOCAL_DATE : Addr) (w_LOCAL_DATE_TIME : Addr) (w_LOCAL_TIME : Addr) (w_MONTH_DAY : Addr) (w_OFFSET_DATE_TIME : Addr) (w_OFFSET_TIME : Addr) (w_YEAR : Addr) (w_YEAR_MONTH : Addr) (w_ZONED_DATE_TIME : Addr) (w_HIJRAH_DATE : Addr) (w_JAPANESE_DATE : Addr) (w_MINGUO_DATE : Addr) (w_THAI_BUDDHIST_DATE : Addr) (h0 : Heap) (n0 : Nat) (Z0 : n0 ≤ h0.size) (E_w_DATE : Exa Z h0 w_DATE "com/example/boundsmith/boundsmith/internal/TimeType") (E_w_CALENDAR : Exa Z h0 w_CALENDAR "com/example/boundsmith/boundsmith/internal/TimeType") (E_w_INSTANT : Exa Z h0 w_INSTANT "com/example/boundsmith/boundsmith/internal/TimeType") (E_w_LOCAL_DATE : Exa Z h0 w_LOCAL_DATE "com/example/boundsmith/boundsmith/internal/TimeType") (E_w_LOCAL_DATE_TIME : Exa Z h0 w_LOCAL_DATE_TIME "com/example/boundsmith/boundsmith/internal/TimeType") (E_w_LOCAL_TIME : Exa Z h0 w_LOCAL_TIME "com/example/boundsmith/boundsmith/internal/TimeType") (E_w_MONTH_DAY : Exa Z h0 w_MONTH_DAY "com/example/boundsmith/boundsmith/internal/TimeType") (E_w_OFFSET_DATE_TIME : Exa Z h0 w_OFFSET_DATE_TIME "com/example/boundsmith/boundsmith/internal/TimeType") (E_w_OFFSET_TIME : Exa Z h0 w_OFFSET_TIME "com/example/boundsmith/boundsmith/internal/TimeType") (E_w_YEAR : Exa Z h0 w_YEAR "com/example/boundsmith/boundsmith/internal/TimeType") (E_w_YEAR_MONTH : Exa Z h0 w_YEAR_MONTH "com/example/boundsmith/boundsmith/internal/TimeType") (E_w_ZONED_DATE_TIME : Exa Z h0 w_ZONED_DATE_TIME "com/example/boundsmith/boundsmith/internal/TimeType") (E_w_HIJRAH_DATE : Exa Z h0 w_HIJRAH_DATE "com/example/boundsmith/boundsmith/internal/TimeType") (E_w_JAPANESE_DATE : Exa Z h0 w_JAPANESE_DATE "com/example/boundsmith/boundsmith/internal/TimeType") (E_w_MINGUO_DATE : Exa Z h0 w_MINGUO_DATE "com/example/boundsmith/boundsmith/internal/TimeType") (E_w_THAI_BUDDHIST_DATE : Exa Z h0 w_THAI_BUDDHIST_DATE "com/example/boundsmith/boundsmith/internal/TimeType") (S_DATE : Sta Z h0 "com/example/boundsmith/boundsmith/internal/TimeType" "DATE" "Lcom/example/boundsmith/boundsmith/internal/TimeType;" (.ref w_DATE)) (S_CALENDAR : Sta Z h0 "com/example/boundsmith/boundsmith/internal/TimeType" "CALENDAR" "Lcom/example/boundsmith/boundsmith/internal/TimeType;" (.ref w_CALENDAR)) (S_INSTANT : Sta Z h0 "com/example/boundsmith/boundsmith/internal/TimeType" "INSTANT" "Lcom/example/boundsmith/boundsmith/internal/TimeType;" (.ref w_INSTANT)) (S_LOCAL_DATE : Sta Z h0 "com/example/boundsmith/boundsmith/internal/TimeType" "LOCAL_DATE" "Lcom/example/boundsmith/boundsmith/internal/TimeType;" (.ref w_LOCAL_DATE)) (S_LOCAL_DATE_TIME : Sta Z h0 "com/example/boundsmith/boundsmith/internal/TimeType" "LOCAL_DATE_TIME" "Lcom/example/boundsmith/boundsmith/internal/TimeType;" (.ref w_LOCAL_DATE_TIME)) (S_LOCAL_TIME : Sta Z h0 "com/example/boundsmith/boundsmith/internal/TimeType" "LOCAL_TIME" "Lcom/example/boundsmith/boundsmith/internal/TimeType;" (.ref w_LOCAL_TIME)) (S_MONTH_DAY : Sta Z h0 "com/example/boundsmith/boundsmith/internal/TimeType" "MONTH_DAY" "Lcom/example/boundsmith/boundsmith/internal/TimeType;" (.ref w_MONTH_DAY)) (S_OFFSET_DATE_TIME : Sta Z h0 "com/example/boundsmith/boundsmith/internal/TimeType" "OFFSET_DATE_TIME" "Lcom/example/boundsmith/boundsmith/internal/TimeType;" (.ref w_OFFSET_DATE_TIME)) (S_OFFSET_TIME : Sta Z h0 "com/example/boundsmith/boundsmith/internal/TimeType" "OFFSET_TIME" "Lcom/example/boundsmith/boundsmith/internal/TimeType;" (.ref w_OFFSET_TIME)) (S_YEAR : Sta Z h0 "com/example/boundsmith/boundsmith/internal/TimeType" "YEAR" "Lcom/example/boundsmith/boundsmith/internal/TimeType;" (.ref w_YEAR)) (S_YEAR_MONTH : Sta Z h0 "com/example/boundsmith/boundsmith/internal/TimeType" "YEAR_MONTH" "Lcom/example/boundsmith/boundsmith/internal/TimeType;" (.ref w_YEAR_MONTH)) (S_ZONED_DATE_TIME : Sta Z h0 "com/example/boundsmith/boundsmith/internal/TimeType" "ZONED_DATE_TIME" "Lcom/example/boundsmith/boundsmith/internal/TimeType;" (.ref w_ZONED_DATE_TIME)) (S_HIJRAH_DATE : Sta Z h0 "com/example/boundsmith/boundsmith/internal/TimeType" "HIJRAH_DATE" "Lcom/example/boundsmith/boundsmith/internal/TimeType;" (.ref w_HIJRAH_DATE)) (S_JAPANESE_DATE : Sta Z h0 "com/example/boundsmith/boundsmith/internal/TimeType" "JAPANESE_DATE" "Lcom/example/boundsmith/boundsmith/internal/TimeType;" (.ref w_JAPANESE_DATE)) (S_MINGUO_DATE : Sta Z h0 "com/example/boundsmith/boundsmith/internal/TimeType" "MINGUO_DATE" "Lcom/example/boundsmith/boundsmith/internal/TimeType;" (.ref w_MINGUO_DATE)) (S_THAI_BUDDHIST_DATE : Sta Z h0 "com/example/boundsmith/boundsmith/internal/TimeType" "THAI_BUDDHIST_DATE" "Lcom/example/boundsmith/boundsmith/internal/TimeType;" (.ref w_THAI_BUDDHIST_DATE)) :
    MetFree l x (head1 (Jvm.Cond.code x code maxLocals ret :: ws) room_1) (fun a U => a = #[(.int p1)] ∧ Z.Warmed39 U.vm ∧ U.heap = h0) (fun _ _ _ _ _ => True) (fun _ U o U' => ∃ v L, o = .returned v ∧ Q0 Z p1 w_DATE w_CALENDAR w_INSTANT w_LOCAL_DATE w_LOCAL_DATE_TIME w_LOCAL_TIME w_MONTH_DAY w_OFFSET_DATE_TIME w_OFFSET_TIME w_YEAR w_YEAR_MONTH w_ZONED_DATE_TIME w_HIJRAH_DATE w_JAPANESE_DATE w_MINGUO_DATE w_THAI_BUDDHIST_DATE h0 n0 v U'.heap L ∧ FrameEnd U o U' L room_1.cells room_1.slots) := by
  refine MetFree.of_bodySF (plainFor_of_name pn_0) hisR ?_
  intro p e s m args below meth c s₁ Bd hml0 hP hK
  obtain ⟨rfl, hZ, hh⟩ := hP
  have hx := Bd.exec
  have hby := Bd.bytes
  have hml : c.maxLocals = 3 := hml0
  have hown : s.vm.findClass "com/example/boundsmith/boundsmith/internal/TimeTypeRepeatsPinLaw" = some m.cls := findClass_of_methodNamed Bd.named
  have hnm := (name_of_methodNamed Bd.named Bd.method).1
  have X0 : Stand p l e room_1 s m #[(.int p1)] below meth c s₁ [] 0 0 := Stand.of_body Bd
  have e0 : s₁.heap = h0 := by rw [← hh, Bd.state]; rfl
  have N0 := Fr.nil n0
  have pre0 : ∀ t, Steps p.tables e below (s₁.setTop (mkF m 0 #[.val (.int p1), .unset, .unset] [])) t → Steps p.tables e below (s₁.setTop (entryFrame m #[(.int p1)] maxLocals)) t := fun t k => castTop (ef_0 m p1) k
  obtain ⟨_, _, ⟨T2, L2, k2, n2⟩, -, X2, ⟨Lc2, hQ2, l2, y2, z2⟩, st2⟩ := Jvm.LawKit.callS X0 hx (y := (⟨"com/example/boundsmith/boundsmith/internal/TimeTypeRepeatsPinLaw", "pick", "(I)Lcom/example/boundsmith/boundsmith/internal/TimeType;"⟩ : MethodName)) hown (mvT hZ (hw _ (List.mem_of_getElem? (i := 0) rfl))) (mvT hZ (hw _ (List.mem_of_getElem? (i := 1) rfl))) (mvT hZ (hw _ (List.mem_of_getElem? (i := 2) rfl))) (mvT hZ (hw _ (List.mem_of_getElem? (i := 3) rfl))) (by decide) (backOf (W := 0) (rm1 l Z a0 hw [] (p1 &&& (15 : Int32)) w_DATE w_CALENDAR w_INSTANT w_LOCAL_DATE w_LOCAL_DATE_TIME w_LOCAL_TIME w_MONTH_DAY w_OFFSET_DATE_TIME w_OFFSET_TIME w_YEAR w_YEAR_MONTH w_ZONED_DATE_TIME w_HIJRAH_DATE w_JAPANESE_DATE w_MINGUO_DATE w_THAI_BUDDHIST_DATE h0 n0 Z0 S_DATE S_CALENDAR S_INSTANT S_LOCAL_DATE S_LOCAL_DATE_TIME S_LOCAL_TIME S_MONTH_DAY S_OFFSET_DATE_TIME S_OFFSET_TIME S_YEAR S_YEAR_MONTH S_ZONED_DATE_TIME S_HIJRAH_DATE S_JAPANESE_DATE S_MINGUO_DATE S_THAI_BUDDHIST_DATE) hZ (hw _ (List.mem_of_getElem? (i := 3) rfl)) (hw _ (List.mem_of_getElem? (i := 2) rfl)) (by decide) (by decide)) (g := (mkF m 6 #[.val (.int p1), .val (.int (p1 &&& (15 : Int32))), .unset] [(.int (p1 &&& (15 : Int32)))])) rfl (by rw [hml]; rfl) (argsL := [(.int (p1 &&& (15 : Int32)))]) (rest := []) (lenOf pd_0_0 rfl) rfl (by show 2 * 0 + _ ≤ _; exact Nat.le_of_eq rfl) (hb hby at_6) (fun _ _ => ⟨rfl, e0, (by decide : 0 + 0 ≤ _), (by decide : 0 + 0 ≤ _)⟩)
  dsimp only [Pt.U, Pt.locs, Pt.cells, Pt.slots] at X2 l2 y2 z2 st2 hQ2
  subst l2 y2 z2
  obtain ⟨rfl, N2q, e2⟩ := hQ2
  have N2 := Fr.app N0 N2q
  obtain ⟨cq3, kq3, q3a, q3b, q3c⟩ := isOf hZ e2 (own_exa _ E_w_DATE E_w_CALENDAR E_w_INSTANT E_w_LOCAL_DATE E_w_LOCAL_DATE_TIME E_w_LOCAL_TIME E_w_MONTH_DAY E_w_OFFSET_DATE_TIME E_w_OFFSET_TIME E_w_YEAR E_w_YEAR_MONTH E_w_ZONED_DATE_TIME E_w_HIJRAH_DATE E_w_JAPANESE_DATE E_w_MINGUO_DATE E_w_THAI_BUDDHIST_DATE)
  obtain ⟨_, _, ⟨T3, L3, k3, n3⟩, -, X3, ⟨Lc3, hQ3, l3, y3, z3⟩, st3⟩ := X2.virtualBack hx (y := (⟨"com/example/boundsmith/boundsmith/internal/TimeType", "repeats", "()Z"⟩ : MethodName)) (z := (⟨"com/example/boundsmith/boundsmith/internal/TimeType", "repeats", "()Z"⟩ : MethodName)) hown (mvT hZ (hw _ (List.mem_of_getElem? (i := 7) rfl))) (mvT hZ (hw _ (List.mem_of_getElem? (i := 8) rfl))) (notFace_of_selects (args := #[]) (mvT hZ (hw _ (List.mem_of_getElem? (i := 10) rfl)))) (mvT hZ (hw _ (List.mem_of_getElem? (i := 10) rfl))) (mvT hZ (hw _ (List.mem_of_getElem? (i := 9) rfl))) (by decide) (backOf (W := 0) (rm2 l Z a0 hw [] (f1 (p1 &&& (15 : Int32)) w_DATE w_CALENDAR w_INSTANT w_LOCAL_DATE w_LOCAL_DATE_TIME w_LOCAL_TIME w_MONTH_DAY w_OFFSET_DATE_TIME w_OFFSET_TIME w_YEAR w_YEAR_MONTH w_ZONED_DATE_TIME w_HIJRAH_DATE w_JAPANESE_DATE w_MINGUO_DATE w_THAI_BUDDHIST_DATE) w_LOCAL_TIME w_OFFSET_TIME w_MONTH_DAY h0 n0 Z0 S_LOCAL_TIME S_OFFSET_TIME S_MONTH_DAY) hZ (hw _ (List.mem_of_getElem? (i := 11) rfl)) (hw _ (List.mem_of_getElem? (i := 5) rfl)) (by decide) (by decide)) q3a q3c (g := (mkF m 11 #[.val (.int p1), .val (.int (p1 &&& (15 : Int32))), .val (.ref (f1 (p1 &&& (15 : Int32)) w_DATE w_CALENDAR w_INSTANT w_LOCAL_DATE w_LOCAL_DATE_TIME w_LOCAL_TIME w_MONTH_DAY w_OFFSET_DATE_TIME w_OFFSET_TIME w_YEAR w_YEAR_MONTH w_ZONED_DATE_TIME w_HIJRAH_DATE w_JAPANESE_DATE w_MINGUO_DATE w_THAI_BUDDHIST_DATE))] [(.ref (f1 (p1 &&& (15 : Int32)) w_DATE w_CALENDAR w_INSTANT w_LOCAL_DATE w_LOCAL_DATE_TIME w_LOCAL_TIME w_MONTH_DAY w_OFFSET_DATE_TIME w_OFFSET_TIME w_YEAR w_YEAR_MONTH w_ZONED_DATE_TIME w_HIJRAH_DATE w_JAPANESE_DATE w_MINGUO_DATE w_THAI_BUDDHIST_DATE))])) rfl (by rw [hml]; rfl) (Steps.refl _) (argsL := []) (rest := []) (lenOf pd_0_1 rfl) rfl (by show 2 * 0 + _ ≤ _; exact Nat.le_of_eq rfl) (hb hby at_11) (fun _ _ => ⟨rfl, e2, (by decide : 0 + 0 ≤ _), (by decide : 0 + 0 ≤ _)⟩)
  dsimp only [Pt.U, Pt.locs, Pt.cells, Pt.slots] at X3 l3 y3 z3 st3 hQ3
  subst l3 y3 z3
  obtain ⟨rfl, N3q, e3⟩ := hQ3
  have N3 := Fr.app N2 N3q
  obtain ⟨_, _, ⟨T4, L4, k4, n4⟩, -, X4, ⟨Lc4, hQ4, l4, y4, z4⟩, st4⟩ := Jvm.LawKit.callS X3 hx (y := (⟨"com/example/boundsmith/boundsmith/internal/TimeTypeRepeatsPinLaw", "cyclic", "(I)Z"⟩ : MethodName)) hown (mvT hZ (hw _ (List.mem_of_getElem? (i := 18) rfl))) (mvT hZ (hw _ (List.mem_of_getElem? (i := 19) rfl))) (mvT hZ (hw _ (List.mem_of_getElem? (i := 2) rfl))) (mvT hZ (hw _ (List.mem_of_getElem? (i := 20) rfl))) (by decide) (backOf (W := 1) (rm3 l Z a0 hw [] (p1 &&& (15 : Int32)) h0 n0 Z0 ) hZ (hw _ (List.mem_of_getElem? (i := 20) rfl)) (hw _ (List.mem_of_getElem? (i := 2) rfl)) (by decide) (by decide)) (g := (mkF m 15 #[.val (.int p1), .val (.int (p1 &&& (15 : Int32))), .val (.ref (f1 (p1 &&& (15 : Int32)) w_DATE w_CALENDAR w_INSTANT w_LOCAL_DATE w_LOCAL_DATE_TIME w_LOCAL_TIME w_MONTH_DAY w_OFFSET_DATE_TIME w_OFFSET_TIME w_YEAR w_YEAR_MONTH w_ZONED_DATE_TIME w_HIJRAH_DATE w_JAPANESE_DATE w_MINGUO_DATE w_THAI_BUDDHIST_DATE))] [(.int (p1 &&& (15 : Int32))), (.int (f2 (f1 (p1 &&& (15 : Int32)) w_DATE w_CALENDAR w_INSTANT w_LOCAL_DATE w_LOCAL_DATE_TIME w_LOCAL_TIME w_MONTH_DAY w_OFFSET_DATE_TIME w_OFFSET_TIME w_YEAR w_YEAR_MONTH w_ZONED_DATE_TIME w_HIJRAH_DATE w_JAPANESE_DATE w_MINGUO_DATE w_THAI_BUDDHIST_DATE) w_LOCAL_TIME w_OFFSET_TIME w_MONTH_DAY))])) rfl (by rw [hml]; rfl) (argsL := [(.int (p1 &&& (15 : Int32)))]) (rest := [(.int (f2 (f1 (p1 &&& (15 : Int32)) w_DATE w_CALENDAR w_INSTANT w_LOCAL_DATE w_LOCAL_DATE_TIME w_LOCAL_TIME w_MONTH_DAY w_OFFSET_DATE_TIME w_OFFSET_TIME w_YEAR w_YEAR_MONTH w_ZONED_DATE_TIME w_HIJRAH_DATE w_JAPANESE_DATE w_MINGUO_DATE w_THAI_BUDDHIST_DATE) w_LOCAL_TIME w_OFFSET_TIME w_MONTH_DAY))]) (lenOf pd_0_2 rfl) rfl (by show 2 * 0 + _ ≤ _; exact Nat.le_of_eq rfl) (hb hby at_15) (fun _ _ => ⟨rfl, e3, (by decide : 0 + 0 ≤ _), (by decide : 0 + 0 ≤ _)⟩)
  dsimp only [Pt.U, Pt.locs, Pt.cells, Pt.slots] at X4 l4 y4 z4 st4 hQ4
  subst l4 y4 z4
  obtain ⟨rfl, N4q, e4⟩ := hQ4
  have N4 := Fr.app N3 N4q
  have pre5 : ∀ t, Steps p.tables e below (T4.setTop (mkF m 18 #[.val (.int p1), .val (.int (p1 &&& (15 : Int32))), .val (.ref (f1 (p1 &&& (15 : Int32)) w_DATE w_CALENDAR w_INSTANT w_LOCAL_DATE w_LOCAL_DATE_TIME w_LOCAL_TIME w_MONTH_DAY w_OFFSET_DATE_TIME w_OFFSET_TIME w_YEAR w_YEAR_MONTH w_ZONED_DATE_TIME w_HIJRAH_DATE w_JAPANESE_DATE w_MINGUO_DATE w_THAI_BUDDHIST_DATE))] [(.int (f3 (p1 &&& (15 : Int32)))), (.int (f2 (f1 (p1 &&& (15 : Int32)) w_DATE w_CALENDAR w_INSTANT w_LOCAL_DATE w_LOCAL_DATE_TIME w_LOCAL_TIME w_MONTH_DAY w_OFFSET_DATE_TIME w_OFFSET_TIME w_YEAR w_YEAR_MONTH w_ZONED_DATE_TIME w_HIJRAH_DATE w_JAPANESE_DATE w_MINGUO_DATE w_THAI_BUDDHIST_DATE) w_LOCAL_TIME w_OFFSET_TIME w_MONTH_DAY))])) t → Steps p.tables e below (s₁.setTop (entryFrame m #[(.int p1)] maxLocals)) t := fun t kt => by
    refine pre0 _ ?_
    show Steps p.tables e below (s₁.setTop (mkF m 0 #[.val (.int p1), .unset, .unset] [])) _
    refine XS.iloadN X0.here hx rfl (hb hby at_0) rfl ?_
    show Steps p.tables e below (s₁.setTop (mkF m 1 _ [(.int p1)])) _
    refine XS.bipush X0.here hx rfl (hb hby at_1) ?_
    show Steps p.tables e below (s₁.setTop (mkF m 3 _ [(.int (15 : Int32)), (.int p1)])) _
    refine XS.iand X0.here hx rfl (hb hby at_3) rfl ?_
    show Steps p.tables e below (s₁.setTop (mkF m 4 _ [(.int (p1 &&& (15 : Int32)))])) _
    refine XS.istoreN X0.here hx rfl (hb hby at_4) rfl (l' := #[.val (.int p1), .val (.int (p1 &&& (15 : Int32))), .unset]) rfl ?_
    show Steps p.tables e below (s₁.setTop (mkF m 5 _ [])) _
    refine XS.iloadN X0.here hx rfl (hb hby at_5) rfl ?_
    show Steps p.tables e below (s₁.setTop (mkF m 6 _ [(.int (p1 &&& (15 : Int32)))])) _
    refine st2 _ ?_
    show Steps p.tables e below (T2.setTop (mkF m 9 _ [(.ref (f1 (p1 &&& (15 : Int32)) w_DATE w_CALENDAR w_INSTANT w_LOCAL_DATE w_LOCAL_DATE_TIME w_LOCAL_TIME w_MONTH_DAY w_OFFSET_DATE_TIME w_OFFSET_TIME w_YEAR w_YEAR_MONTH w_ZONED_DATE_TIME w_HIJRAH_DATE w_JAPANESE_DATE w_MINGUO_DATE w_THAI_BUDDHIST_DATE))])) _
    refine XS.astoreN X2.here hx rfl (hb hby at_9) rfl rfl (l' := #[.val (.int p1), .val (.int (p1 &&& (15 : Int32))), .val (.ref (f1 (p1 &&& (15 : Int32)) w_DATE w_CALENDAR w_INSTANT w_LOCAL_DATE w_LOCAL_DATE_TIME w_LOCAL_TIME w_MONTH_DAY w_OFFSET_DATE_TIME w_OFFSET_TIME w_YEAR w_YEAR_MONTH w_ZONED_DATE_TIME w_HIJRAH_DATE w_JAPANESE_DATE w_MINGUO_DATE w_THAI_BUDDHIST_DATE))]) rfl ?_
    show Steps p.tables e below (T2.setTop (mkF m 10 _ [])) _
    refine XS.aloadN X2.here hx rfl (hb hby at_10) rfl rfl ?_
    show Steps p.tables e below (T2.setTop (mkF m 11 _ [(.ref (f1 (p1 &&& (15 : Int32)) w_DATE w_CALENDAR w_INSTANT w_LOCAL_DATE w_LOCAL_DATE_TIME w_LOCAL_TIME w_MONTH_DAY w_OFFSET_DATE_TIME w_OFFSET_TIME w_YEAR w_YEAR_MONTH w_ZONED_DATE_TIME w_HIJRAH_DATE w_JAPANESE_DATE w_MINGUO_DATE w_THAI_BUDDHIST_DATE))])) _
    refine st3.trans ?_
    show Steps p.tables e below (T3.setTop (mkF m 14 _ [(.int (f2 (f1 (p1 &&& (15 : Int32)) w_DATE w_CALENDAR w_INSTANT w_LOCAL_DATE w_LOCAL_DATE_TIME w_LOCAL_TIME w_MONTH_DAY w_OFFSET_DATE_TIME w_OFFSET_TIME w_YEAR w_YEAR_MONTH w_ZONED_DATE_TIME w_HIJRAH_DATE w_JAPANESE_DATE w_MINGUO_DATE w_THAI_BUDDHIST_DATE) w_LOCAL_TIME w_OFFSET_TIME w_MONTH_DAY))])) _
    refine XS.iloadN X3.here hx rfl (hb hby at_14) rfl ?_
    show Steps p.tables e below (T3.setTop (mkF m 15 _ [(.int (p1 &&& (15 : Int32))), (.int (f2 (f1 (p1 &&& (15 : Int32)) w_DATE w_CALENDAR w_INSTANT w_LOCAL_DATE w_LOCAL_DATE_TIME w_LOCAL_TIME w_MONTH_DAY w_OFFSET_DATE_TIME w_OFFSET_TIME w_YEAR w_YEAR_MONTH w_ZONED_DATE_TIME w_HIJRAH_DATE w_JAPANESE_DATE w_MINGUO_DATE w_THAI_BUDDHIST_DATE) w_LOCAL_TIME w_OFFSET_TIME w_MONTH_DAY))])) _
    refine st4 _ ?_
    exact kt
  by_cases hc6 : (f2 (f1 (p1 &&& (15 : Int32)) w_DATE w_CALENDAR w_INSTANT w_LOCAL_DATE w_LOCAL_DATE_TIME w_LOCAL_TIME w_MONTH_DAY w_OFFSET_DATE_TIME w_OFFSET_TIME w_YEAR w_YEAR_MONTH w_ZONED_DATE_TIME w_HIJRAH_DATE w_JAPANESE_DATE w_MINGUO_DATE w_THAI_BUDDHIST_DATE) w_LOCAL_TIME w_OFFSET_TIME w_MONTH_DAY) = (f3 (p1 &&& (15 : Int32)))
  · skip
    obtain ⟨fs, hr, hrun, hended, hW, hsame⟩ := X4.leave (v := some (.int (1 : Int32))) (fun h => by rw [Bd.returns] at h; cases h) (by first | exact BodyLoose.notSynchronized Bd | exact Body.notSynchronized Bd)
    refine ⟨_, _, pre5 _ ?_, hrun, hended, _, _, rfl, ?_, ⟨_, rfl⟩, hW, hsame.mono (by decide) (by decide)⟩
    · show Steps p.tables e below (T4.setTop (mkF m 18 #[.val (.int p1), .val (.int (p1 &&& (15 : Int32))), .val (.ref (f1 (p1 &&& (15 : Int32)) w_DATE w_CALENDAR w_INSTANT w_LOCAL_DATE w_LOCAL_DATE_TIME w_LOCAL_TIME w_MONTH_DAY w_OFFSET_DATE_TIME w_OFFSET_TIME w_YEAR w_YEAR_MONTH w_ZONED_DATE_TIME w_HIJRAH_DATE w_JAPANESE_DATE w_MINGUO_DATE w_THAI_BUDDHIST_DATE))] [(.int (f3 (p1 &&& (15 : Int32)))), (.int (f2 (f1 (p1 &&& (15 : Int32)) w_DATE w_CALENDAR w_INSTANT w_LOCAL_DATE w_LOCAL_DATE_TIME w_LOCAL_TIME w_MONTH_DAY w_OFFSET_DATE_TIME w_OFFSET_TIME w_YEAR w_YEAR_MONTH w_ZONED_DATE_TIME w_HIJRAH_DATE w_JAPANESE_DATE w_MINGUO_DATE w_THAI_BUDDHIST_DATE) w_LOCAL_TIME w_OFFSET_TIME w_MONTH_DAY))])) _
      refine XS.icmpNo X4.here hx rfl (hb hby at_18) rfl (teq hc6).2 ?_
      show Steps p.tables e below (T4.setTop (mkF m 21 _ [])) _
      refine XS.iconst X4.here hx rfl (hb hby at_21) ?_
      show Steps p.tables e below (T4.setTop (mkF m 22 _ [(.int (1 : Int32))])) _
      refine XS.goto X4.here hx rfl (pc0 := 22) (pc' := 26) rfl (hb hby at_22) (by decide) (by decide) ?_
      show Steps p.tables e below (T4.setTop (mkF m 26 #[.val (.int p1), .val (.int (p1 &&& (15 : Int32))), .val (.ref (f1 (p1 &&& (15 : Int32)) w_DATE w_CALENDAR w_INSTANT w_LOCAL_DATE w_LOCAL_DATE_TIME w_LOCAL_TIME w_MONTH_DAY w_OFFSET_DATE_TIME w_OFFSET_TIME w_YEAR w_YEAR_MONTH w_ZONED_DATE_TIME w_HIJRAH_DATE w_JAPANESE_DATE w_MINGUO_DATE w_THAI_BUDDHIST_DATE))] [(.int (1 : Int32))])) _
      exact retN X4 hx (t := .boolean) Bd.returns (by simp) (hb hby at_26) hr
    · show Q0 Z p1 w_DATE w_CALENDAR w_INSTANT w_LOCAL_DATE w_LOCAL_DATE_TIME w_LOCAL_TIME w_MONTH_DAY w_OFFSET_DATE_TIME w_OFFSET_TIME w_YEAR w_YEAR_MONTH w_ZONED_DATE_TIME w_HIJRAH_DATE w_JAPANESE_DATE w_MINGUO_DATE w_THAI_BUDDHIST_DATE h0 n0 _ T4.heap _
      rw [e4]
      exact ⟨congrArg (fun z => some (Value.int z)) (by rw [f0, if_pos hc6] : f0 p1 w_DATE w_CALENDAR w_INSTANT w_LOCAL_DATE w_LOCAL_DATE_TIME w_LOCAL_TIME w_MONTH_DAY w_OFFSET_DATE_TIME w_OFFSET_TIME w_YEAR w_YEAR_MONTH w_ZONED_DATE_TIME w_HIJRAH_DATE w_JAPANESE_DATE w_MINGUO_DATE w_THAI_BUDDHIST_DATE = (1 : Int32)).symm, N4⟩
  · skip
    obtain ⟨fs, hr, hrun, hended, hW, hsame⟩ := X4.leave (v := some (.int (0 : Int32))) (fun h => by rw [Bd.returns] at h; cases h) (by first | exact BodyLoose.notSynchronized Bd | exact Body.notSynchronized Bd)
    refine ⟨_, _, pre5 _ ?_, hrun, hended, _, _, rfl, ?_, ⟨_, rfl⟩, hW, hsame.mono (by decide) (by decide)⟩
    · show Steps p.tables e below (T4.setTop (mkF m 18 #[.val (.int p1), .val (.int (p1 &&& (15 : Int32))), .val (.ref (f1 (p1 &&& (15 : Int32)) w_DATE w_CALENDAR w_INSTANT w_LOCAL_DATE w_LOCAL_DATE_TIME w_LOCAL_TIME w_MONTH_DAY w_OFFSET_DATE_TIME w_OFFSET_TIME w_YEAR w_YEAR_MONTH w_ZONED_DATE_TIME w_HIJRAH_DATE w_JAPANESE_DATE w_MINGUO_DATE w_THAI_BUDDHIST_DATE))] [(.int (f3 (p1 &&& (15 : Int32)))), (.int (f2 (f1 (p1 &&& (15 : Int32)) w_DATE w_CALENDAR w_INSTANT w_LOCAL_DATE w_LOCAL_DATE_TIME w_LOCAL_TIME w_MONTH_DAY w_OFFSET_DATE_TIME w_OFFSET_TIME w_YEAR w_YEAR_MONTH w_ZONED_DATE_TIME w_HIJRAH_DATE w_JAPANESE_DATE w_MINGUO_DATE w_THAI_BUDDHIST_DATE) w_LOCAL_TIME w_OFFSET_TIME w_MONTH_DAY))])) _
      refine XS.icmpYes X4.here hx rfl (pc0 := 18) (pc' := 25) rfl (hb hby at_18) rfl (feq hc6).2 (by decide) (by decide) ?_
      show Steps p.tables e below (T4.setTop (mkF m 25 _ [])) _
      refine XS.iconst X4.here hx rfl (hb hby at_25) ?_
      show Steps p.tables e below (T4.setTop (mkF m 26 #[.val (.int p1), .val (.int (p1 &&& (15 : Int32))), .val (.ref (f1 (p1 &&& (15 : Int32)) w_DATE w_CALENDAR w_INSTANT w_LOCAL_DATE w_LOCAL_DATE_TIME w_LOCAL_TIME w_MONTH_DAY w_OFFSET_DATE_TIME w_OFFSET_TIME w_YEAR w_YEAR_MONTH w_ZONED_DATE_TIME w_HIJRAH_DATE w_JAPANESE_DATE w_MINGUO_DATE w_THAI_BUDDHIST_DATE))] [(.int (0 : Int32))])) _
      exact retN X4 hx (t := .boolean) Bd.returns (by simp) (hb hby at_26) hr
    · show Q0 Z p1 w_DATE w_CALENDAR w_INSTANT w_LOCAL_DATE w_LOCAL_DATE_TIME w_LOCAL_TIME w_MONTH_DAY w_OFFSET_DATE_TIME w_OFFSET_TIME w_YEAR w_YEAR_MONTH w_ZONED_DATE_TIME w_HIJRAH_DATE w_JAPANESE_DATE w_MINGUO_DATE w_THAI_BUDDHIST_DATE h0 n0 _ T4.heap _
      rw [e4]
      exact ⟨congrArg (fun z => some (Value.int z)) (by rw [f0, if_neg hc6] : f0 p1 w_DATE w_CALENDAR w_INSTANT w_LOCAL_DATE w_LOCAL_DATE_TIME w_LOCAL_TIME w_MONTH_DAY w_OFFSET_DATE_TIME w_OFFSET_TIME w_YEAR w_YEAR_MONTH w_ZONED_DATE_TIME w_HIJRAH_DATE w_JAPANESE_DATE w_MINGUO_DATE w_THAI_BUDDHIST_DATE = (0 : Int32)).symm, N4⟩
theorem own_pick (i : Int32) (w_DATE : Addr) (w_CALENDAR : Addr) (w_INSTANT : Addr) (w_LOCAL_DATE : Addr) (w_LOCAL_DATE_TIME : Addr) (w_LOCAL_TIME : Addr) (w_MONTH_DAY : Addr) (w_OFFSET_DATE_TIME : Addr) (w_OFFSET_TIME : Addr) (w_YEAR : Addr) (w_YEAR_MONTH : Addr) (w_ZONED_DATE_TIME : Addr) (w_HIJRAH_DATE : Addr) (w_JAPANESE_DATE : Addr) (w_MINGUO_DATE : Addr) (w_THAI_BUDDHIST_DATE : Addr) (ne_DATE_LOCAL_TIME : w_DATE ≠ w_LOCAL_TIME) (ne_DATE_OFFSET_TIME : w_DATE ≠ w_OFFSET_TIME) (ne_DATE_MONTH_DAY : w_DATE ≠ w_MONTH_DAY) (ne_CALENDAR_LOCAL_TIME : w_CALENDAR ≠ w_LOCAL_TIME) (ne_CALENDAR_OFFSET_TIME : w_CALENDAR ≠ w_OFFSET_TIME) (ne_CALENDAR_MONTH_DAY : w_CALENDAR ≠ w_MONTH_DAY) (ne_INSTANT_LOCAL_TIME : w_INSTANT ≠ w_LOCAL_TIME) (ne_INSTANT_OFFSET_TIME : w_INSTANT ≠ w_OFFSET_TIME) (ne_INSTANT_MONTH_DAY : w_INSTANT ≠ w_MONTH_DAY) (ne_LOCAL_DATE_LOCAL_TIME : w_LOCAL_DATE ≠ w_LOCAL_TIME) (ne_LOCAL_DATE_OFFSET_TIME : w_LOCAL_DATE ≠ w_OFFSET_TIME) (ne_LOCAL_DATE_MONTH_DAY : w_LOCAL_DATE ≠ w_MONTH_DAY) (ne_LOCAL_DATE_TIME_LOCAL_TIME : w_LOCAL_DATE_TIME ≠ w_LOCAL_TIME) (ne_LOCAL_DATE_TIME_OFFSET_TIME : w_LOCAL_DATE_TIME ≠ w_OFFSET_TIME) (ne_LOCAL_DATE_TIME_MONTH_DAY : w_LOCAL_DATE_TIME ≠ w_MONTH_DAY) (ne_OFFSET_DATE_TIME_LOCAL_TIME : w_OFFSET_DATE_TIME ≠ w_LOCAL_TIME) (ne_OFFSET_DATE_TIME_OFFSET_TIME : w_OFFSET_DATE_TIME ≠ w_OFFSET_TIME) (ne_OFFSET_DATE_TIME_MONTH_DAY : w_OFFSET_DATE_TIME ≠ w_MONTH_DAY) (ne_YEAR_LOCAL_TIME : w_YEAR ≠ w_LOCAL_TIME) (ne_YEAR_OFFSET_TIME : w_YEAR ≠ w_OFFSET_TIME) (ne_YEAR_MONTH_DAY : w_YEAR ≠ w_MONTH_DAY) (ne_YEAR_MONTH_LOCAL_TIME : w_YEAR_MONTH ≠ w_LOCAL_TIME) (ne_YEAR_MONTH_OFFSET_TIME : w_YEAR_MONTH ≠ w_OFFSET_TIME) (ne_YEAR_MONTH_MONTH_DAY : w_YEAR_MONTH ≠ w_MONTH_DAY) (ne_ZONED_DATE_TIME_LOCAL_TIME : w_ZONED_DATE_TIME ≠ w_LOCAL_TIME) (ne_ZONED_DATE_TIME_OFFSET_TIME : w_ZONED_DATE_TIME ≠ w_OFFSET_TIME) (ne_ZONED_DATE_TIME_MONTH_DAY : w_ZONED_DATE_TIME ≠ w_MONTH_DAY) (ne_HIJRAH_DATE_LOCAL_TIME : w_HIJRAH_DATE ≠ w_LOCAL_TIME) (ne_HIJRAH_DATE_OFFSET_TIME : w_HIJRAH_DATE ≠ w_OFFSET_TIME) (ne_HIJRAH_DATE_MONTH_DAY : w_HIJRAH_DATE ≠ w_MONTH_DAY) (ne_JAPANESE_DATE_LOCAL_TIME : w_JAPANESE_DATE ≠ w_LOCAL_TIME) (ne_JAPANESE_DATE_OFFSET_TIME : w_JAPANESE_DATE ≠ w_OFFSET_TIME) (ne_JAPANESE_DATE_MONTH_DAY : w_JAPANESE_DATE ≠ w_MONTH_DAY) (ne_MINGUO_DATE_LOCAL_TIME : w_MINGUO_DATE ≠ w_LOCAL_TIME) (ne_MINGUO_DATE_OFFSET_TIME : w_MINGUO_DATE ≠ w_OFFSET_TIME) (ne_MINGUO_DATE_MONTH_DAY : w_MINGUO_DATE ≠ w_MONTH_DAY) (ne_THAI_BUDDHIST_DATE_LOCAL_TIME : w_THAI_BUDDHIST_DATE ≠ w_LOCAL_TIME) (ne_THAI_BUDDHIST_DATE_OFFSET_TIME : w_THAI_BUDDHIST_DATE ≠ w_OFFSET_TIME) (ne_THAI_BUDDHIST_DATE_MONTH_DAY : w_THAI_BUDDHIST_DATE ≠ w_MONTH_DAY) : f2 (f1 i w_DATE w_CALENDAR w_INSTANT w_LOCAL_DATE w_LOCAL_DATE_TIME w_LOCAL_TIME w_MONTH_DAY w_OFFSET_DATE_TIME w_OFFSET_TIME w_YEAR w_YEAR_MONTH w_ZONED_DATE_TIME w_HIJRAH_DATE w_JAPANESE_DATE w_MINGUO_DATE w_THAI_BUDDHIST_DATE) w_LOCAL_TIME w_OFFSET_TIME w_MONTH_DAY = f3 i := by
  by_cases h0 : i = 0
  · subst h0; simp [f1, f2, f3, ne_DATE_LOCAL_TIME, ne_DATE_OFFSET_TIME, ne_DATE_MONTH_DAY]
  by_cases h1 : i = 1
  · subst h1; simp [f1, f2, f3, ne_CALENDAR_LOCAL_TIME, ne_CALENDAR_OFFSET_TIME, ne_CALENDAR_MONTH_DAY]
  by_cases h2 : i = 2
  · subst h2; simp [f1, f2, f3, ne_INSTANT_LOCAL_TIME, ne_INSTANT_OFFSET_TIME, ne_INSTANT_MONTH_DAY]
  by_cases h3 : i = 3
  · subst h3; simp [f1, f2, f3, ne_LOCAL_DATE_LOCAL_TIME, ne_LOCAL_DATE_OFFSET_TIME, ne_LOCAL_DATE_MONTH_DAY]
  by_cases h4 : i = 4
  · subst h4; simp [f1, f2, f3, ne_LOCAL_DATE_TIME_LOCAL_TIME, ne_LOCAL_DATE_TIME_OFFSET_TIME, ne_LOCAL_DATE_TIME_MONTH_DAY]
  by_cases h5 : i = 5
  · subst h5; simp [f1, f2, f3, f1]
  by_cases h6 : i = 6
  · subst h6; simp [f1, f2, f3, f1]
  by_cases h7 : i = 7
  · subst h7; simp [f1, f2, f3, ne_OFFSET_DATE_TIME_LOCAL_TIME, ne_OFFSET_DATE_TIME_OFFSET_TIME, ne_OFFSET_DATE_TIME_MONTH_DAY]
  by_cases h8 : i = 8
  · subst h8; simp [f1, f2, f3, f1]
  by_cases h9 : i = 9
  · subst h9; simp [f1, f2, f3, ne_YEAR_LOCAL_TIME, ne_YEAR_OFFSET_TIME, ne_YEAR_MONTH_DAY]
  by_cases h10 : i = 10
  · subst h10; simp [f1, f2, f3, ne_YEAR_MONTH_LOCAL_TIME, ne_YEAR_MONTH_OFFSET_TIME, ne_YEAR_MONTH_MONTH_DAY]
  by_cases h11 : i = 11
  · subst h11; simp [f1, f2, f3, ne_ZONED_DATE_TIME_LOCAL_TIME, ne_ZONED_DATE_TIME_OFFSET_TIME, ne_ZONED_DATE_TIME_MONTH_DAY]
  by_cases h12 : i = 12
  · subst h12; simp [f1, f2, f3, ne_HIJRAH_DATE_LOCAL_TIME, ne_HIJRAH_DATE_OFFSET_TIME, ne_HIJRAH_DATE_MONTH_DAY]
  by_cases h13 : i = 13
  · subst h13; simp [f1, f2, f3, ne_JAPANESE_DATE_LOCAL_TIME, ne_JAPANESE_DATE_OFFSET_TIME, ne_JAPANESE_DATE_MONTH_DAY]
  by_cases h14 : i = 14
  · subst h14; simp [f1, f2, f3, ne_MINGUO_DATE_LOCAL_TIME, ne_MINGUO_DATE_OFFSET_TIME, ne_MINGUO_DATE_MONTH_DAY]
  simp [f1, f2, f3, h0, h1, h2, h3, h4, h5, h6, h7, h8, h9, h10, h11, h12, h13, h14, ne_THAI_BUDDHIST_DATE_LOCAL_TIME, ne_THAI_BUDDHIST_DATE_OFFSET_TIME, ne_THAI_BUDDHIST_DATE_MONTH_DAY]
theorem own_plain (p1 : Int32) (w_DATE : Addr) (w_CALENDAR : Addr) (w_INSTANT : Addr) (w_LOCAL_DATE : Addr) (w_LOCAL_DATE_TIME : Addr) (w_LOCAL_TIME : Addr) (w_MONTH_DAY : Addr) (w_OFFSET_DATE_TIME : Addr) (w_OFFSET_TIME : Addr) (w_YEAR : Addr) (w_YEAR_MONTH : Addr) (w_ZONED_DATE_TIME : Addr) (w_HIJRAH_DATE : Addr) (w_JAPANESE_DATE : Addr) (w_MINGUO_DATE : Addr) (w_THAI_BUDDHIST_DATE : Addr) (ne_DATE_LOCAL_TIME : w_DATE ≠ w_LOCAL_TIME) (ne_DATE_OFFSET_TIME : w_DATE ≠ w_OFFSET_TIME) (ne_DATE_MONTH_DAY : w_DATE ≠ w_MONTH_DAY) (ne_CALENDAR_LOCAL_TIME : w_CALENDAR ≠ w_LOCAL_TIME) (ne_CALENDAR_OFFSET_TIME : w_CALENDAR ≠ w_OFFSET_TIME) (ne_CALENDAR_MONTH_DAY : w_CALENDAR ≠ w_MONTH_DAY) (ne_INSTANT_LOCAL_TIME : w_INSTANT ≠ w_LOCAL_TIME) (ne_INSTANT_OFFSET_TIME : w_INSTANT ≠ w_OFFSET_TIME) (ne_INSTANT_MONTH_DAY : w_INSTANT ≠ w_MONTH_DAY) (ne_LOCAL_DATE_LOCAL_TIME : w_LOCAL_DATE ≠ w_LOCAL_TIME) (ne_LOCAL_DATE_OFFSET_TIME : w_LOCAL_DATE ≠ w_OFFSET_TIME) (ne_LOCAL_DATE_MONTH_DAY : w_LOCAL_DATE ≠ w_MONTH_DAY) (ne_LOCAL_DATE_TIME_LOCAL_TIME : w_LOCAL_DATE_TIME ≠ w_LOCAL_TIME) (ne_LOCAL_DATE_TIME_OFFSET_TIME : w_LOCAL_DATE_TIME ≠ w_OFFSET_TIME) (ne_LOCAL_DATE_TIME_MONTH_DAY : w_LOCAL_DATE_TIME ≠ w_MONTH_DAY) (ne_OFFSET_DATE_TIME_LOCAL_TIME : w_OFFSET_DATE_TIME ≠ w_LOCAL_TIME) (ne_OFFSET_DATE_TIME_OFFSET_TIME : w_OFFSET_DATE_TIME ≠ w_OFFSET_TIME) (ne_OFFSET_DATE_TIME_MONTH_DAY : w_OFFSET_DATE_TIME ≠ w_MONTH_DAY) (ne_YEAR_LOCAL_TIME : w_YEAR ≠ w_LOCAL_TIME) (ne_YEAR_OFFSET_TIME : w_YEAR ≠ w_OFFSET_TIME) (ne_YEAR_MONTH_DAY : w_YEAR ≠ w_MONTH_DAY) (ne_YEAR_MONTH_LOCAL_TIME : w_YEAR_MONTH ≠ w_LOCAL_TIME) (ne_YEAR_MONTH_OFFSET_TIME : w_YEAR_MONTH ≠ w_OFFSET_TIME) (ne_YEAR_MONTH_MONTH_DAY : w_YEAR_MONTH ≠ w_MONTH_DAY) (ne_ZONED_DATE_TIME_LOCAL_TIME : w_ZONED_DATE_TIME ≠ w_LOCAL_TIME) (ne_ZONED_DATE_TIME_OFFSET_TIME : w_ZONED_DATE_TIME ≠ w_OFFSET_TIME) (ne_ZONED_DATE_TIME_MONTH_DAY : w_ZONED_DATE_TIME ≠ w_MONTH_DAY) (ne_HIJRAH_DATE_LOCAL_TIME : w_HIJRAH_DATE ≠ w_LOCAL_TIME) (ne_HIJRAH_DATE_OFFSET_TIME : w_HIJRAH_DATE ≠ w_OFFSET_TIME) (ne_HIJRAH_DATE_MONTH_DAY : w_HIJRAH_DATE ≠ w_MONTH_DAY) (ne_JAPANESE_DATE_LOCAL_TIME : w_JAPANESE_DATE ≠ w_LOCAL_TIME) (ne_JAPANESE_DATE_OFFSET_TIME : w_JAPANESE_DATE ≠ w_OFFSET_TIME) (ne_JAPANESE_DATE_MONTH_DAY : w_JAPANESE_DATE ≠ w_MONTH_DAY) (ne_MINGUO_DATE_LOCAL_TIME : w_MINGUO_DATE ≠ w_LOCAL_TIME) (ne_MINGUO_DATE_OFFSET_TIME : w_MINGUO_DATE ≠ w_OFFSET_TIME) (ne_MINGUO_DATE_MONTH_DAY : w_MINGUO_DATE ≠ w_MONTH_DAY) (ne_THAI_BUDDHIST_DATE_LOCAL_TIME : w_THAI_BUDDHIST_DATE ≠ w_LOCAL_TIME) (ne_THAI_BUDDHIST_DATE_OFFSET_TIME : w_THAI_BUDDHIST_DATE ≠ w_OFFSET_TIME) (ne_THAI_BUDDHIST_DATE_MONTH_DAY : w_THAI_BUDDHIST_DATE ≠ w_MONTH_DAY) : f0 p1 w_DATE w_CALENDAR w_INSTANT w_LOCAL_DATE w_LOCAL_DATE_TIME w_LOCAL_TIME w_MONTH_DAY w_OFFSET_DATE_TIME w_OFFSET_TIME w_YEAR w_YEAR_MONTH w_ZONED_DATE_TIME w_HIJRAH_DATE w_JAPANESE_DATE w_MINGUO_DATE w_THAI_BUDDHIST_DATE = 1 := by
  unfold f0
  rw [if_pos (own_pick _ w_DATE w_CALENDAR w_INSTANT w_LOCAL_DATE w_LOCAL_DATE_TIME w_LOCAL_TIME w_MONTH_DAY w_OFFSET_DATE_TIME w_OFFSET_TIME w_YEAR w_YEAR_MONTH w_ZONED_DATE_TIME w_HIJRAH_DATE w_JAPANESE_DATE w_MINGUO_DATE w_THAI_BUDDHIST_DATE ne_DATE_LOCAL_TIME ne_DATE_OFFSET_TIME ne_DATE_MONTH_DAY ne_CALENDAR_LOCAL_TIME ne_CALENDAR_OFFSET_TIME ne_CALENDAR_MONTH_DAY ne_INSTANT_LOCAL_TIME ne_INSTANT_OFFSET_TIME ne_INSTANT_MONTH_DAY ne_LOCAL_DATE_LOCAL_TIME ne_LOCAL_DATE_OFFSET_TIME ne_LOCAL_DATE_MONTH_DAY ne_LOCAL_DATE_TIME_LOCAL_TIME ne_LOCAL_DATE_TIME_OFFSET_TIME ne_LOCAL_DATE_TIME_MONTH_DAY ne_OFFSET_DATE_TIME_LOCAL_TIME ne_OFFSET_DATE_TIME_OFFSET_TIME ne_OFFSET_DATE_TIME_MONTH_DAY ne_YEAR_LOCAL_TIME ne_YEAR_OFFSET_TIME ne_YEAR_MONTH_DAY ne_YEAR_MONTH_LOCAL_TIME ne_YEAR_MONTH_OFFSET_TIME ne_YEAR_MONTH_MONTH_DAY ne_ZONED_DATE_TIME_LOCAL_TIME ne_ZONED_DATE_TIME_OFFSET_TIME ne_ZONED_DATE_TIME_MONTH_DAY ne_HIJRAH_DATE_LOCAL_TIME ne_HIJRAH_DATE_OFFSET_TIME ne_HIJRAH_DATE_MONTH_DAY ne_JAPANESE_DATE_LOCAL_TIME ne_JAPANESE_DATE_OFFSET_TIME ne_JAPANESE_DATE_MONTH_DAY ne_MINGUO_DATE_LOCAL_TIME ne_MINGUO_DATE_OFFSET_TIME ne_MINGUO_DATE_MONTH_DAY ne_THAI_BUDDHIST_DATE_LOCAL_TIME ne_THAI_BUDDHIST_DATE_OFFSET_TIME ne_THAI_BUDDHIST_DATE_MONTH_DAY)]
set_option maxRecDepth 65536 in
set_option maxHeartbeats 40000000 in
theorem comes_1 {Post : Tables → Env → Array Value → State → Outcome → State → Prop} (hpost : ∀ tb e args s v u, (limb_1_1.after args s (.returned v) u = true ∧ limb_1_2.after args s (.returned v) u = true ∧ True) → FrameEnd s (.returned v) u (Jvm.fieldLocs frame_1_writes args s ++ Jvm.arrayLocs frame_1_arrays args s ++ Jvm.staticLocs frame_1_statics s) 0 0 → Post tb e args s (.returned v) u) :
    ArmFor flags0 classFile x code maxLocals ret World_1 tables_1 room_1 Calls_1 rest_1 Pre_1 Post := by
  intro l hfl _ _ p e ha hc hk s m args below hf hA hF happ hP
  obtain ⟨hcalls, hrest, hpre⟩ := hP
  obtain ⟨-, -, -, hnamed, -, -, -, hat⟩ := (Spec.applies_iff hf).mp happ
  obtain ⟨hg, hn⟩ := and_e (Cond.before_iff.mp (show (Jvm.Cond.and given_1 narrow_1).before args s = true from hpre))
  obtain ⟨gc, hg⟩ := and_e hg
  obtain ⟨w0, rfl⟩ : ∃ w0 : Value, args = #[w0] := by
    have hs : args.size = 1 := by simpa [Cond.value, given_1] using gc
    obtain ⟨L⟩ := args
    match L, hs with
    | [w0], _ => exact ⟨w0, rfl⟩
  have hw := fun d (hd : d ∈ tables_1) => atoms_spec (ws := Jvm.Cond.code x code maxLocals ret :: tables_1) hat d (List.mem_cons_of_mem _ hd)
  obtain ⟨i0, ei0⟩ := is_v hg
  obtain rfl : w0 = (.int i0) := Option.some.inj ei0
  obtain ⟨nw0, hn⟩ := and_e hn
  obtain ⟨nw1, hn⟩ := and_e hn
  obtain ⟨nw2, hn⟩ := and_e hn
  obtain ⟨nw3, hn⟩ := and_e hn
  obtain ⟨nw4, hn⟩ := and_e hn
  obtain ⟨nw5, hn⟩ := and_e hn
  obtain ⟨nw6, hn⟩ := and_e hn
  obtain ⟨nw7, hn⟩ := and_e hn
  obtain ⟨nw8, hn⟩ := and_e hn
  obtain ⟨nw9, hn⟩ := and_e hn
  obtain ⟨nw10, hn⟩ := and_e hn
  obtain ⟨nw11, hn⟩ := and_e hn
  obtain ⟨nw12, hn⟩ := and_e hn
  obtain ⟨nw13, hn⟩ := and_e hn
  obtain ⟨nw14, hn⟩ := and_e hn
  obtain ⟨nw15, hn⟩ := and_e hn
  obtain ⟨nw16, hn⟩ := and_e hn
  obtain ⟨nw17, hn⟩ := and_e hn
  obtain ⟨nw18, hn⟩ := and_e hn
  obtain ⟨nw19, hn⟩ := and_e hn
  obtain ⟨nw20, hn⟩ := and_e hn
  obtain ⟨nw21, hn⟩ := and_e hn
  obtain ⟨nw22, hn⟩ := and_e hn
  obtain ⟨nw23, hn⟩ := and_e hn
  obtain ⟨nw24, hn⟩ := and_e hn
  obtain ⟨nw25, hn⟩ := and_e hn
  obtain ⟨nw26, hn⟩ := and_e hn
  obtain ⟨nw27, hn⟩ := and_e hn
  obtain ⟨nw28, hn⟩ := and_e hn
  obtain ⟨nw29, hn⟩ := and_e hn
  obtain ⟨nw30, hn⟩ := and_e hn
  have nw31 := hn
  obtain ⟨w_DATE, ev_DATE⟩ := exa_v nw0
  have E_w_DATE := Exa.start ev_DATE nw0
  have S_DATE := Sta.start ev_DATE (Or.inr ⟨(hw _ (List.mem_of_getElem? (i := 5) rfl)), (hw _ (List.mem_of_getElem? (i := 6) rfl))⟩)
  obtain ⟨w_LOCAL_TIME, ev_LOCAL_TIME⟩ := exa_v nw1
  have E_w_LOCAL_TIME := Exa.start ev_LOCAL_TIME nw1
  have S_LOCAL_TIME := Sta.start ev_LOCAL_TIME (Or.inr ⟨(hw _ (List.mem_of_getElem? (i := 5) rfl)), (hw _ (List.mem_of_getElem? (i := 13) rfl))⟩)
  obtain ⟨w_OFFSET_TIME, ev_OFFSET_TIME⟩ := exa_v nw4
  have E_w_OFFSET_TIME := Exa.start ev_OFFSET_TIME nw4
  have S_OFFSET_TIME := Sta.start ev_OFFSET_TIME (Or.inr ⟨(hw _ (List.mem_of_getElem? (i := 5) rfl)), (hw _ (List.mem_of_getElem? (i := 15) rfl))⟩)
  obtain ⟨w_MONTH_DAY, ev_MONTH_DAY⟩ := exa_v nw6
  have E_w_MONTH_DAY := Exa.start ev_MONTH_DAY nw6
  have S_MONTH_DAY := Sta.start ev_MONTH_DAY (Or.inr ⟨(hw _ (List.mem_of_getElem? (i := 5) rfl)), (hw _ (List.mem_of_getElem? (i := 17) rfl))⟩)
  obtain ⟨w_LOCAL_DATE, ev_LOCAL_DATE⟩ := exa_v nw8
  have E_w_LOCAL_DATE := Exa.start ev_LOCAL_DATE nw8
  have S_LOCAL_DATE := Sta.start ev_LOCAL_DATE (Or.inr ⟨(hw _ (List.mem_of_getElem? (i := 5) rfl)), (hw _ (List.mem_of_getElem? (i := 22) rfl))⟩)
  obtain ⟨w_MINGUO_DATE, ev_MINGUO_DATE⟩ := exa_v nw10
  have E_w_MINGUO_DATE := Exa.start ev_MINGUO_DATE nw10
  have S_MINGUO_DATE := Sta.start ev_MINGUO_DATE (Or.inr ⟨(hw _ (List.mem_of_getElem? (i := 5) rfl)), (hw _ (List.mem_of_getElem? (i := 24) rfl))⟩)
  obtain ⟨w_THAI_BUDDHIST_DATE, ev_THAI_BUDDHIST_DATE⟩ := exa_v nw12
  have E_w_THAI_BUDDHIST_DATE := Exa.start ev_THAI_BUDDHIST_DATE nw12
  have S_THAI_BUDDHIST_DATE := Sta.start ev_THAI_BUDDHIST_DATE (Or.inr ⟨(hw _ (List.mem_of_getElem? (i := 5) rfl)), (hw _ (List.mem_of_getElem? (i := 26) rfl))⟩)
  obtain ⟨w_YEAR_MONTH, ev_YEAR_MONTH⟩ := exa_v nw14
  have E_w_YEAR_MONTH := Exa.start ev_YEAR_MONTH nw14
  have S_YEAR_MONTH := Sta.start ev_YEAR_MONTH (Or.inr ⟨(hw _ (List.mem_of_getElem? (i := 5) rfl)), (hw _ (List.mem_of_getElem? (i := 28) rfl))⟩)
  obtain ⟨w_OFFSET_DATE_TIME, ev_OFFSET_DATE_TIME⟩ := exa_v nw16
  have E_w_OFFSET_DATE_TIME := Exa.start ev_OFFSET_DATE_TIME nw16
  have S_OFFSET_DATE_TIME := Sta.start ev_OFFSET_DATE_TIME (Or.inr ⟨(hw _ (List.mem_of_getElem? (i := 5) rfl)), (hw _ (List.mem_of_getElem? (i := 30) rfl))⟩)
  obtain ⟨w_INSTANT, ev_INSTANT⟩ := exa_v nw18
  have E_w_INSTANT := Exa.start ev_INSTANT nw18
  have S_INSTANT := Sta.start ev_INSTANT (Or.inr ⟨(hw _ (List.mem_of_getElem? (i := 5) rfl)), (hw _ (List.mem_of_getElem? (i := 32) rfl))⟩)
  obtain ⟨w_ZONED_DATE_TIME, ev_ZONED_DATE_TIME⟩ := exa_v nw20
  have E_w_ZONED_DATE_TIME := Exa.start ev_ZONED_DATE_TIME nw20
  have S_ZONED_DATE_TIME := Sta.start ev_ZONED_DATE_TIME (Or.inr ⟨(hw _ (List.mem_of_getElem? (i := 5) rfl)), (hw _ (List.mem_of_getElem? (i := 34) rfl))⟩)
  obtain ⟨w_CALENDAR, ev_CALENDAR⟩ := exa_v nw22
  have E_w_CALENDAR := Exa.start ev_CALENDAR nw22
  have S_CALENDAR := Sta.start ev_CALENDAR (Or.inr ⟨(hw _ (List.mem_of_getElem? (i := 5) rfl)), (hw _ (List.mem_of_getElem? (i := 37) rfl))⟩)
  obtain ⟨w_LOCAL_DATE_TIME, ev_LOCAL_DATE_TIME⟩ := exa_v nw24
  have E_w_LOCAL_DATE_TIME := Exa.start ev_LOCAL_DATE_TIME nw24
  have S_LOCAL_DATE_TIME := Sta.start ev_LOCAL_DATE_TIME (Or.inr ⟨(hw _ (List.mem_of_getElem? (i := 5) rfl)), (hw _ (List.mem_of_getElem? (i := 39) rfl))⟩)
  obtain ⟨w_HIJRAH_DATE, ev_HIJRAH_DATE⟩ := exa_v nw26
  have E_w_HIJRAH_DATE := Exa.start ev_HIJRAH_DATE nw26
  have S_HIJRAH_DATE := Sta.start ev_HIJRAH_DATE (Or.inr ⟨(hw _ (List.mem_of_getElem? (i := 5) rfl)), (hw _ (List.mem_of_getElem? (i := 41) rfl))⟩)
  obtain ⟨w_JAPANESE_DATE, ev_JAPANESE_DATE⟩ := exa_v nw28
  have E_w_JAPANESE_DATE := Exa.start ev_JAPANESE_DATE nw28
  have S_JAPANESE_DATE := Sta.start ev_JAPANESE_DATE (Or.inr ⟨(hw _ (List.mem_of_getElem? (i := 5) rfl)), (hw _ (List.mem_of_getElem? (i := 43) rfl))⟩)
  obtain ⟨w_YEAR, ev_YEAR⟩ := exa_v nw30
  have E_w_YEAR := Exa.start ev_YEAR nw30
  have S_YEAR := Sta.start ev_YEAR (Or.inr ⟨(hw _ (List.mem_of_getElem? (i := 5) rfl)), (hw _ (List.mem_of_getElem? (i := 46) rfl))⟩)
  have O_DATE := own_fld ev_DATE nw2
  have O_LOCAL_TIME := own_fld ev_LOCAL_TIME nw3
  have O_OFFSET_TIME := own_fld ev_OFFSET_TIME nw5
  have O_MONTH_DAY := own_fld ev_MONTH_DAY nw7
  have O_LOCAL_DATE := own_fld ev_LOCAL_DATE nw9
  have O_MINGUO_DATE := own_fld ev_MINGUO_DATE nw11
  have O_THAI_BUDDHIST_DATE := own_fld ev_THAI_BUDDHIST_DATE nw13
  have O_YEAR_MONTH := own_fld ev_YEAR_MONTH nw15
  have O_OFFSET_DATE_TIME := own_fld ev_OFFSET_DATE_TIME nw17
  have O_INSTANT := own_fld ev_INSTANT nw19
  have O_ZONED_DATE_TIME := own_fld ev_ZONED_DATE_TIME nw21
  have O_CALENDAR := own_fld ev_CALENDAR nw23
  have O_LOCAL_DATE_TIME := own_fld ev_LOCAL_DATE_TIME nw25
  have O_HIJRAH_DATE := own_fld ev_HIJRAH_DATE nw27
  have O_JAPANESE_DATE := own_fld ev_JAPANESE_DATE nw29
  have O_YEAR := own_fld ev_YEAR nw31
  have ne_DATE_LOCAL_TIME : w_DATE ≠ w_LOCAL_TIME := Fld.ne O_DATE O_LOCAL_TIME (fun q => absurd (Value.int.inj q) (by decide))
  have ne_DATE_OFFSET_TIME : w_DATE ≠ w_OFFSET_TIME := Fld.ne O_DATE O_OFFSET_TIME (fun q => absurd (Value.int.inj q) (by decide))
  have ne_DATE_MONTH_DAY : w_DATE ≠ w_MONTH_DAY := Fld.ne O_DATE O_MONTH_DAY (fun q => absurd (Value.int.inj q) (by decide))
  have ne_CALENDAR_LOCAL_TIME : w_CALENDAR ≠ w_LOCAL_TIME := Fld.ne O_CALENDAR O_LOCAL_TIME (fun q => absurd (Value.int.inj q) (by decide))
  have ne_CALENDAR_OFFSET_TIME : w_CALENDAR ≠ w_OFFSET_TIME := Fld.ne O_CALENDAR O_OFFSET_TIME (fun q => absurd (Value.int.inj q) (by decide))
  have ne_CALENDAR_MONTH_DAY : w_CALENDAR ≠ w_MONTH_DAY := Fld.ne O_CALENDAR O_MONTH_DAY (fun q => absurd (Value.int.inj q) (by decide))
  have ne_INSTANT_LOCAL_TIME : w_INSTANT ≠ w_LOCAL_TIME := Fld.ne O_INSTANT O_LOCAL_TIME (fun q => absurd (Value.int.inj q) (by decide))
  have ne_INSTANT_OFFSET_TIME : w_INSTANT ≠ w_OFFSET_TIME := Fld.ne O_INSTANT O_OFFSET_TIME (fun q => absurd (Value.int.inj q) (by decide))
  have ne_INSTANT_MONTH_DAY : w_INSTANT ≠ w_MONTH_DAY := Fld.ne O_INSTANT O_MONTH_DAY (fun q => absurd (Value.int.inj q) (by decide))
  have ne_LOCAL_DATE_LOCAL_TIME : w_LOCAL_DATE ≠ w_LOCAL_TIME := Fld.ne O_LOCAL_DATE O_LOCAL_TIME (fun q => absurd (Value.int.inj q) (by decide))
  have ne_LOCAL_DATE_OFFSET_TIME : w_LOCAL_DATE ≠ w_OFFSET_TIME := Fld.ne O_LOCAL_DATE O_OFFSET_TIME (fun q => absurd (Value.int.inj q) (by decide))
  have ne_LOCAL_DATE_MONTH_DAY : w_LOCAL_DATE ≠ w_MONTH_DAY := Fld.ne O_LOCAL_DATE O_MONTH_DAY (fun q => absurd (Value.int.inj q) (by decide))
  have ne_LOCAL_DATE_TIME_LOCAL_TIME : w_LOCAL_DATE_TIME ≠ w_LOCAL_TIME := Fld.ne O_LOCAL_DATE_TIME O_LOCAL_TIME (fun q => absurd (Value.int.inj q) (by decide))
  have ne_LOCAL_DATE_TIME_OFFSET_TIME : w_LOCAL_DATE_TIME ≠ w_OFFSET_TIME := Fld.ne O_LOCAL_DATE_TIME O_OFFSET_TIME (fun q => absurd (Value.int.inj q) (by decide))
  have ne_LOCAL_DATE_TIME_MONTH_DAY : w_LOCAL_DATE_TIME ≠ w_MONTH_DAY := Fld.ne O_LOCAL_DATE_TIME O_MONTH_DAY (fun q => absurd (Value.int.inj q) (by decide))
  have ne_OFFSET_DATE_TIME_LOCAL_TIME : w_OFFSET_DATE_TIME ≠ w_LOCAL_TIME := Fld.ne O_OFFSET_DATE_TIME O_LOCAL_TIME (fun q => absurd (Value.int.inj q) (by decide))
  have ne_OFFSET_DATE_TIME_OFFSET_TIME : w_OFFSET_DATE_TIME ≠ w_OFFSET_TIME := Fld.ne O_OFFSET_DATE_TIME O_OFFSET_TIME (fun q => absurd (Value.int.inj q) (by decide))
  have ne_OFFSET_DATE_TIME_MONTH_DAY : w_OFFSET_DATE_TIME ≠ w_MONTH_DAY := Fld.ne O_OFFSET_DATE_TIME O_MONTH_DAY (fun q => absurd (Value.int.inj q) (by decide))
  have ne_YEAR_LOCAL_TIME : w_YEAR ≠ w_LOCAL_TIME := Fld.ne O_YEAR O_LOCAL_TIME (fun q => absurd (Value.int.inj q) (by decide))
  have ne_YEAR_OFFSET_TIME : w_YEAR ≠ w_OFFSET_TIME := Fld.ne O_YEAR O_OFFSET_TIME (fun q => absurd (Value.int.inj q) (by decide))
  have ne_YEAR_MONTH_DAY : w_YEAR ≠ w_MONTH_DAY := Fld.ne O_YEAR O_MONTH_DAY (fun q => absurd (Value.int.inj q) (by decide))
  have ne_YEAR_MONTH_LOCAL_TIME : w_YEAR_MONTH ≠ w_LOCAL_TIME := Fld.ne O_YEAR_MONTH O_LOCAL_TIME (fun q => absurd (Value.int.inj q) (by decide))
  have ne_YEAR_MONTH_OFFSET_TIME : w_YEAR_MONTH ≠ w_OFFSET_TIME := Fld.ne O_YEAR_MONTH O_OFFSET_TIME (fun q => absurd (Value.int.inj q) (by decide))
  have ne_YEAR_MONTH_MONTH_DAY : w_YEAR_MONTH ≠ w_MONTH_DAY := Fld.ne O_YEAR_MONTH O_MONTH_DAY (fun q => absurd (Value.int.inj q) (by decide))
  have ne_ZONED_DATE_TIME_LOCAL_TIME : w_ZONED_DATE_TIME ≠ w_LOCAL_TIME := Fld.ne O_ZONED_DATE_TIME O_LOCAL_TIME (fun q => absurd (Value.int.inj q) (by decide))
  have ne_ZONED_DATE_TIME_OFFSET_TIME : w_ZONED_DATE_TIME ≠ w_OFFSET_TIME := Fld.ne O_ZONED_DATE_TIME O_OFFSET_TIME (fun q => absurd (Value.int.inj q) (by decide))
  have ne_ZONED_DATE_TIME_MONTH_DAY : w_ZONED_DATE_TIME ≠ w_MONTH_DAY := Fld.ne O_ZONED_DATE_TIME O_MONTH_DAY (fun q => absurd (Value.int.inj q) (by decide))
  have ne_HIJRAH_DATE_LOCAL_TIME : w_HIJRAH_DATE ≠ w_LOCAL_TIME := Fld.ne O_HIJRAH_DATE O_LOCAL_TIME (fun q => absurd (Value.int.inj q) (by decide))
  have ne_HIJRAH_DATE_OFFSET_TIME : w_HIJRAH_DATE ≠ w_OFFSET_TIME := Fld.ne O_HIJRAH_DATE O_OFFSET_TIME (fun q => absurd (Value.int.inj q) (by decide))
  have ne_HIJRAH_DATE_MONTH_DAY : w_HIJRAH_DATE ≠ w_MONTH_DAY := Fld.ne O_HIJRAH_DATE O_MONTH_DAY (fun q => absurd (Value.int.inj q) (by decide))
  have ne_JAPANESE_DATE_LOCAL_TIME : w_JAPANESE_DATE ≠ w_LOCAL_TIME := Fld.ne O_JAPANESE_DATE O_LOCAL_TIME (fun q => absurd (Value.int.inj q) (by decide))
  have ne_JAPANESE_DATE_OFFSET_TIME : w_JAPANESE_DATE ≠ w_OFFSET_TIME := Fld.ne O_JAPANESE_DATE O_OFFSET_TIME (fun q => absurd (Value.int.inj q) (by decide))
  have ne_JAPANESE_DATE_MONTH_DAY : w_JAPANESE_DATE ≠ w_MONTH_DAY := Fld.ne O_JAPANESE_DATE O_MONTH_DAY (fun q => absurd (Value.int.inj q) (by decide))
  have ne_MINGUO_DATE_LOCAL_TIME : w_MINGUO_DATE ≠ w_LOCAL_TIME := Fld.ne O_MINGUO_DATE O_LOCAL_TIME (fun q => absurd (Value.int.inj q) (by decide))
  have ne_MINGUO_DATE_OFFSET_TIME : w_MINGUO_DATE ≠ w_OFFSET_TIME := Fld.ne O_MINGUO_DATE O_OFFSET_TIME (fun q => absurd (Value.int.inj q) (by decide))
  have ne_MINGUO_DATE_MONTH_DAY : w_MINGUO_DATE ≠ w_MONTH_DAY := Fld.ne O_MINGUO_DATE O_MONTH_DAY (fun q => absurd (Value.int.inj q) (by decide))
  have ne_THAI_BUDDHIST_DATE_LOCAL_TIME : w_THAI_BUDDHIST_DATE ≠ w_LOCAL_TIME := Fld.ne O_THAI_BUDDHIST_DATE O_LOCAL_TIME (fun q => absurd (Value.int.inj q) (by decide))
  have ne_THAI_BUDDHIST_DATE_OFFSET_TIME : w_THAI_BUDDHIST_DATE ≠ w_OFFSET_TIME := Fld.ne O_THAI_BUDDHIST_DATE O_OFFSET_TIME (fun q => absurd (Value.int.inj q) (by decide))
  have ne_THAI_BUDDHIST_DATE_MONTH_DAY : w_THAI_BUDDHIST_DATE ≠ w_MONTH_DAY := Fld.ne O_THAI_BUDDHIST_DATE O_MONTH_DAY (fun q => absurd (Value.int.inj q) (by decide))
  obtain ⟨n, o, h1, h2, h3, vr, L, rfl, ⟨hvr, N⟩, hq⟩ := rm0 l s _ hw tables_1 i0 w_DATE w_CALENDAR w_INSTANT w_LOCAL_DATE w_LOCAL_DATE_TIME w_LOCAL_TIME w_MONTH_DAY w_OFFSET_DATE_TIME w_OFFSET_TIME w_YEAR w_YEAR_MONTH w_ZONED_DATE_TIME w_HIJRAH_DATE w_JAPANESE_DATE w_MINGUO_DATE w_THAI_BUDDHIST_DATE s.heap s.heap.size (Nat.le_refl _) E_w_DATE E_w_CALENDAR E_w_INSTANT E_w_LOCAL_DATE E_w_LOCAL_DATE_TIME E_w_LOCAL_TIME E_w_MONTH_DAY E_w_OFFSET_DATE_TIME E_w_OFFSET_TIME E_w_YEAR E_w_YEAR_MONTH E_w_ZONED_DATE_TIME E_w_HIJRAH_DATE E_w_JAPANESE_DATE E_w_MINGUO_DATE E_w_THAI_BUDDHIST_DATE S_DATE S_CALENDAR S_INSTANT S_LOCAL_DATE S_LOCAL_DATE_TIME S_LOCAL_TIME S_MONTH_DAY S_OFFSET_DATE_TIME S_OFFSET_TIME S_YEAR S_YEAR_MONTH S_ZONED_DATE_TIME S_HIJRAH_DATE S_JAPANESE_DATE S_MINGUO_DATE S_THAI_BUDDHIST_DATE p e ha hc hk s m _ below hf ((Spec.applies_iff_loose hf).mp happ).1 ⟨rfl, State.Warmed39.refl s, rfl⟩ trivial
  have hpl : f0 i0 w_DATE w_CALENDAR w_INSTANT w_LOCAL_DATE w_LOCAL_DATE_TIME w_LOCAL_TIME w_MONTH_DAY w_OFFSET_DATE_TIME w_OFFSET_TIME w_YEAR w_YEAR_MONTH w_ZONED_DATE_TIME w_HIJRAH_DATE w_JAPANESE_DATE w_MINGUO_DATE w_THAI_BUDDHIST_DATE = 1 := own_plain i0 w_DATE w_CALENDAR w_INSTANT w_LOCAL_DATE w_LOCAL_DATE_TIME w_LOCAL_TIME w_MONTH_DAY w_OFFSET_DATE_TIME w_OFFSET_TIME w_YEAR w_YEAR_MONTH w_ZONED_DATE_TIME w_HIJRAH_DATE w_JAPANESE_DATE w_MINGUO_DATE w_THAI_BUDDHIST_DATE ne_DATE_LOCAL_TIME ne_DATE_OFFSET_TIME ne_DATE_MONTH_DAY ne_CALENDAR_LOCAL_TIME ne_CALENDAR_OFFSET_TIME ne_CALENDAR_MONTH_DAY ne_INSTANT_LOCAL_TIME ne_INSTANT_OFFSET_TIME ne_INSTANT_MONTH_DAY ne_LOCAL_DATE_LOCAL_TIME ne_LOCAL_DATE_OFFSET_TIME ne_LOCAL_DATE_MONTH_DAY ne_LOCAL_DATE_TIME_LOCAL_TIME ne_LOCAL_DATE_TIME_OFFSET_TIME ne_LOCAL_DATE_TIME_MONTH_DAY ne_OFFSET_DATE_TIME_LOCAL_TIME ne_OFFSET_DATE_TIME_OFFSET_TIME ne_OFFSET_DATE_TIME_MONTH_DAY ne_YEAR_LOCAL_TIME ne_YEAR_OFFSET_TIME ne_YEAR_MONTH_DAY ne_YEAR_MONTH_LOCAL_TIME ne_YEAR_MONTH_OFFSET_TIME ne_YEAR_MONTH_MONTH_DAY ne_ZONED_DATE_TIME_LOCAL_TIME ne_ZONED_DATE_TIME_OFFSET_TIME ne_ZONED_DATE_TIME_MONTH_DAY ne_HIJRAH_DATE_LOCAL_TIME ne_HIJRAH_DATE_OFFSET_TIME ne_HIJRAH_DATE_MONTH_DAY ne_JAPANESE_DATE_LOCAL_TIME ne_JAPANESE_DATE_OFFSET_TIME ne_JAPANESE_DATE_MONTH_DAY ne_MINGUO_DATE_LOCAL_TIME ne_MINGUO_DATE_OFFSET_TIME ne_MINGUO_DATE_MONTH_DAY ne_THAI_BUDDHIST_DATE_LOCAL_TIME ne_THAI_BUDDHIST_DATE_OFFSET_TIME ne_THAI_BUDDHIST_DATE_MONTH_DAY
  rw [hpl] at hvr
  subst hvr
  refine ⟨n, _, h1, h2, h3, hpost _ _ _ _ _ _ ⟨Cond.after_iff.mpr rfl, Cond.after_iff.mpr (eq_i res_at (Term.int_eval (1)) rfl), trivial⟩ ⟨hq.1, hq.2.1, (hq.2.2.sift fun y hy => Or.inr (N y hy)).mono (by decide) (by decide)⟩⟩
theorem main_1_1 : Claimed_1_1 := comes_1 fun _ _ _ _ _ _ h hF => ⟨h.1, hF⟩
theorem main_1_2 : Claimed_1_2 := comes_1 fun _ _ _ _ _ _ h hF => ⟨h.2.1, hF⟩

end Jvm.Pilot.@@N@@
namespace Jvm.Pilot.@@N@@
open Jvm Jvm.ClassFile Sem Op Lib Jvm.Free Jvm.Stand Jvm.Pilot.@@N@@.Jvm.D
/-! MADE BY PROGRAM (witnessworld.py) out of the Statement's table words and the real class files: 12 classes; the members and pool entries that the words name. The judged class is class 1, her method 3. -/
namespace start1
open Jvm.ClassFile
def u (s : String) : CpInfo := .utf8 (stringToUtf16 s)
/-- a pool by its gaps: so many unusable entries, then the entry; so many at the end -/
def gap : Nat → List CpInfo → List CpInfo
  | 0, r => r
  | n + 1, r => .unusable :: gap n r
def poolList (es : List (Nat × CpInfo)) (last : Nat) : List CpInfo := es.foldr (fun e r => gap e.1 (e.2 :: r)) (gap last [])
def pool (es : List (Nat × CpInfo)) (last : Nat) : Array CpInfo := ⟨poolList es last⟩
def fileOf (pool : Array CpInfo) (this : Nat) (attrs : Array Attribute := #[]) (ms : Array MethodInfo := #[]) (fl : Nat := 33) (sup : Nat := 0) (ifs : Array Nat := #[]) (fds : Array FieldInfo := #[]) : ClassFile where
  minorVersion := 0
  majorVersion := 65
  constantPool := pool
  accessFlags := fl
  thisClass := this
  superClass := sup
  interfaces := ifs
  fields := fds
  methods := ms
  attributes := attrs
def plain (name : String) (sup : Option ClassId) : Class where
  name := name
  kind := .ordinary
  loader := none
  accessFlags := 33
  super := sup
  interfaces := #[]
  cf := none
  fields := #[]
  methods := #[]
  instanceTypes := #[]
  staticTypes := #[]
  resolved := #[]
  callSites := []
  init := .initialized
  statics := none
  mirror := none

def pool0 : Array CpInfo := pool [(5, u "<init>"), (0, u "()V"), (1, .class_ 10), (1, u "java/lang/Object")] 113

def k0m0 : Method := { name := "<init>", desc := "()V", sig := { parameters := [], returnType := none }, accessFlags := 1, code := none }
/-- java/lang/Object -/
def k0 : Class := { plain "java/lang/Object" none with
  accessFlags := 33
  interfaces := #[]
  cf := some (fileOf pool0 8 #[] #[{ accessFlags := 1, nameIndex := 5, descriptorIndex := 6, attributes := #[] }] 33 0 #[] #[])
  fields := #[]
  methods := #[k0m0]
  instanceTypes := #[]
  staticTypes := #[]
  resolved := Array.replicate 124 none
  statics := none }

def pool1 : Array CpInfo := pool [(2, .class_ 4), (1, u "java/lang/Object"), (0, u "<init>"), (0, u "()V"), (0, .fieldref 8 9), (0, .class_ 10), (0, .nameAndType 11 12), (0, u "com/example/boundsmith/boundsmith/internal/TimeType"), (0, u "DATE"), (0, u "Lcom/example/boundsmith/boundsmith/internal/TimeType;"), (0, .fieldref 8 14), (0, .nameAndType 15 12), (0, u "CALENDAR"), (0, .fieldref 8 17), (0, .nameAndType 18 12), (0, u "INSTANT"), (0, .fieldref 8 20), (0, .nameAndType 21 12), (0, u "LOCAL_DATE"), (0, .fieldref 8 23), (0, .nameAndType 24 12), (0, u "LOCAL_DATE_TIME"), (0, .fieldref 8 26), (0, .nameAndType 27 12), (0, u "LOCAL_TIME"), (0, .fieldref 8 29), (0, .nameAndType 30 12), (0, u "MONTH_DAY"), (0, .fieldref 8 32), (0, .nameAndType 33 12), (0, u "OFFSET_DATE_TIME"), (0, .fieldref 8 35), (0, .nameAndType 36 12), (0, u "OFFSET_TIME"), (0, .fieldref 8 38), (0, .nameAndType 39 12), (0, u "YEAR"), (0, .fieldref 8 41), (0, .nameAndType 42 12), (0, u "YEAR_MONTH"), (0, .fieldref 8 44), (0, .nameAndType 45 12), (0, u "ZONED_DATE_TIME"), (0, .fieldref 8 47), (0, .nameAndType 48 12), (0, u "HIJRAH_DATE"), (0, .fieldref 8 50), (0, .nameAndType 51 12), (0, u "JAPANESE_DATE"), (0, .fieldref 8 53), (0, .nameAndType 54 12), (0, u "MINGUO_DATE"), (0, .fieldref 8 56), (0, .nameAndType 57 12), (0, u "THAI_BUDDHIST_DATE"), (0, .methodref 59 60), (0, .class_ 61), (0, .nameAndType 62 63), (0, u "com/example/boundsmith/boundsmith/internal/TimeTypeRepeatsPinLaw"), (0, u "pick"), (0, u "(I)Lcom/example/boundsmith/boundsmith/internal/TimeType;"), (0, .methodref 8 65), (0, .nameAndType 66 67), (0, u "repeats"), (0, u "()Z"), (0, .methodref 59 69), (0, .nameAndType 70 71), (0, u "cyclic"), (0, u "(I)Z"), (3, u "law")] 2

def k1m0 : Method := { name := "<init>", desc := "()V", sig := { parameters := [], returnType := none }, accessFlags := 2, code := none }
def k1c1 : Code := { maxStack := 2, maxLocals := 1, code := method_2_code, exceptionTable := #[], attributes := #[] }
def k1m1 : Method := { name := "pick", desc := "(I)Lcom/example/boundsmith/boundsmith/internal/TimeType;", sig := { parameters := [.int], returnType := some (.object "com/example/boundsmith/boundsmith/internal/TimeType") }, accessFlags := 10, code := some k1c1 }
def k1c2 : Code := { maxStack := 2, maxLocals := 1, code := method_3_code, exceptionTable := #[], attributes := #[] }
def k1m2 : Method := { name := "cyclic", desc := "(I)Z", sig := { parameters := [.int], returnType := some .boolean }, accessFlags := 10, code := some k1c2 }
def k1c3 : Code := { maxStack := 2, maxLocals := 3, code := code, exceptionTable := #[], attributes := #[] }
def k1m3 : Method := { name := "law", desc := "(I)Z", sig := { parameters := [.int], returnType := some .boolean }, accessFlags := 9, code := some k1c3 }
/-- com/example/boundsmith/boundsmith/internal/TimeTypeRepeatsPinLaw -/
def k1 : Class := { plain "com/example/boundsmith/boundsmith/internal/TimeTypeRepeatsPinLaw" (some 0) with
  accessFlags := 49
  interfaces := #[]
  cf := some (fileOf pool1 59 #[] #[{ accessFlags := 2, nameIndex := 5, descriptorIndex := 6, attributes := #[] }, { accessFlags := 10, nameIndex := 62, descriptorIndex := 63, attributes := #[] }, { accessFlags := 10, nameIndex := 70, descriptorIndex := 71, attributes := #[] }, { accessFlags := 9, nameIndex := 75, descriptorIndex := 71, attributes := #[] }] 49 2 #[] #[])
  fields := #[]
  methods := #[k1m0, k1m1, k1m2, k1m3]
  instanceTypes := #[]
  staticTypes := #[]
  resolved := Array.replicate 78 none
  statics := none }

def pool2 : Array CpInfo := pool [(1, .class_ 2), (0, u "java/lang/constant/Constable"), (0, .class_ 4), (0, u "java/lang/Object")] 6

/-- java/lang/constant/Constable -/
def k2 : Class := { plain "java/lang/constant/Constable" (some 0) with
  accessFlags := 1537
  interfaces := #[]
  cf := some (fileOf pool2 1 #[] #[] 1537 3 #[] #[])
  fields := #[]
  methods := #[]
  instanceTypes := #[]
  staticTypes := #[]
  resolved := Array.replicate 11 none
  statics := none }

def pool3 : Array CpInfo := pool [(1, .class_ 2), (0, u "java/lang/Comparable"), (0, .class_ 4), (0, u "java/lang/Object")] 7

/-- java/lang/Comparable -/
def k3 : Class := { plain "java/lang/Comparable" (some 0) with
  accessFlags := 1537
  interfaces := #[]
  cf := some (fileOf pool3 1 #[] #[] 1537 3 #[] #[])
  fields := #[]
  methods := #[]
  instanceTypes := #[]
  staticTypes := #[]
  resolved := Array.replicate 12 none
  statics := none }

def pool4 : Array CpInfo := pool [(1, .class_ 2), (0, u "java/io/Serializable"), (0, .class_ 4), (0, u "java/lang/Object")] 2

/-- java/io/Serializable -/
def k4 : Class := { plain "java/io/Serializable" (some 0) with
  accessFlags := 1537
  interfaces := #[]
  cf := some (fileOf pool4 1 #[] #[] 1537 3 #[] #[])
  fields := #[]
  methods := #[]
  instanceTypes := #[]
  staticTypes := #[]
  resolved := Array.replicate 7 none
  statics := none }

def pool5 : Array CpInfo := pool [(2, .class_ 4), (1, u "java/lang/Enum"), (0, u "name"), (0, u "Ljava/lang/String;"), (2, u "ordinal"), (0, u "I"), (1, .class_ 14), (1, u "java/lang/Object"), (4, u "hash"), (86, .class_ 108), (1, u "java/lang/Enum$EnumDesc"), (2, .class_ 112), (0, u "java/lang/constant/Constable"), (0, .class_ 114), (0, u "java/lang/Comparable"), (0, .class_ 116), (0, u "java/io/Serializable")] 87

/-- java/lang/Enum -/
def k5 : Class := { plain "java/lang/Enum" (some 0) with
  accessFlags := 1057
  interfaces := #[2, 3, 4]
  cf := some (fileOf pool5 2 #[.nestMembers #[106]] #[] 1057 12 #[111, 113, 115] #[{ accessFlags := 18, nameIndex := 5, descriptorIndex := 6, attributes := #[] }, { accessFlags := 18, nameIndex := 9, descriptorIndex := 10, attributes := #[] }, { accessFlags := 2, nameIndex := 19, descriptorIndex := 10, attributes := #[] }])
  fields := #[{ name := "name", type := (.object "java/lang/String"), accessFlags := 18, slot := 0, constantValue := 0 }, { name := "ordinal", type := .int, accessFlags := 18, slot := 1, constantValue := 0 }, { name := "hash", type := .int, accessFlags := 2, slot := 2, constantValue := 0 }]
  methods := #[]
  instanceTypes := #[(.object "java/lang/String"), .int, .int]
  staticTypes := #[]
  resolved := Array.replicate 204 none
  statics := none }

def pool6 : Array CpInfo := pool [(1, .class_ 2), (0, u "com/example/boundsmith/boundsmith/internal/TimeType"), (2, u "DATE"), (0, u "Lcom/example/boundsmith/boundsmith/internal/TimeType;"), (2, u "CALENDAR"), (2, u "INSTANT"), (2, u "LOCAL_DATE"), (2, u "LOCAL_DATE_TIME"), (0, .fieldref 1 20), (0, .nameAndType 21 6), (0, u "LOCAL_TIME"), (0, .fieldref 1 23), (0, .nameAndType 24 6), (0, u "MONTH_DAY"), (2, u "OFFSET_DATE_TIME"), (0, .fieldref 1 29), (0, .nameAndType 30 6), (0, u "OFFSET_TIME"), (2, u "YEAR"), (2, u "YEAR_MONTH"), (2, u "ZONED_DATE_TIME"), (2, u "HIJRAH_DATE"), (2, u "JAPANESE_DATE"), (2, u "MINGUO_DATE"), (2, u "THAI_BUDDHIST_DATE"), (2, u "$VALUES"), (0, u "[Lcom/example/boundsmith/boundsmith/internal/TimeType;"), (6, .class_ 64), (1, u "java/lang/Enum"), (8, u "type"), (0, u "Ljava/lang/Class;"), (2, u "stepsPerSecond"), (0, u "J"), (6, u "ends"), (2, .class_ 90), (1, u "com/example/boundsmith/boundsmith/internal/TimeType$Ends"), (7, u "Lcom/example/boundsmith/boundsmith/internal/TimeType$Ends;"), (10, .class_ 111), (1, u "com/example/boundsmith/boundsmith/internal/TimeType$Limits"), (67, u "repeats"), (0, u "()Z")] 296

def k6c0 : Code := { maxStack := 2, maxLocals := 1, code := prog_62_method_10_code, exceptionTable := #[], attributes := #[] }
def k6m0 : Method := { name := "repeats", desc := "()Z", sig := { parameters := [], returnType := some .boolean }, accessFlags := 0, code := some k6c0 }
/-- com/example/boundsmith/boundsmith/internal/TimeType -/
def k6 : Class := { plain "com/example/boundsmith/boundsmith/internal/TimeType" (some 5) with
  accessFlags := 16432
  interfaces := #[]
  cf := some (fileOf pool6 1 #[.nestMembers #[109, 88]] #[{ accessFlags := 0, nameIndex := 179, descriptorIndex := 180, attributes := #[] }] 16432 62 #[] #[{ accessFlags := 16409, nameIndex := 5, descriptorIndex := 6, attributes := #[] }, { accessFlags := 16409, nameIndex := 9, descriptorIndex := 6, attributes := #[] }, { accessFlags := 16409, nameIndex := 12, descriptorIndex := 6, attributes := #[] }, { accessFlags := 16409, nameIndex := 15, descriptorIndex := 6, attributes := #[] }, { accessFlags := 16409, nameIndex := 18, descriptorIndex := 6, attributes := #[] }, { accessFlags := 16409, nameIndex := 21, descriptorIndex := 6, attributes := #[] }, { accessFlags := 16409, nameIndex := 24, descriptorIndex := 6, attributes := #[] }, { accessFlags := 16409, nameIndex := 27, descriptorIndex := 6, attributes := #[] }, { accessFlags := 16409, nameIndex := 30, descriptorIndex := 6, attributes := #[] }, { accessFlags := 16409, nameIndex := 33, descriptorIndex := 6, attributes := #[] }, { accessFlags := 16409, nameIndex := 36, descriptorIndex := 6, attributes := #[] }, { accessFlags := 16409, nameIndex := 39, descriptorIndex := 6, attributes := #[] }, { accessFlags := 16409, nameIndex := 42, descriptorIndex := 6, attributes := #[] }, { accessFlags := 16409, nameIndex := 45, descriptorIndex := 6, attributes := #[] }, { accessFlags := 16409, nameIndex := 48, descriptorIndex := 6, attributes := #[] }, { accessFlags := 16409, nameIndex := 51, descriptorIndex := 6, attributes := #[] }, { accessFlags := 18, nameIndex := 73, descriptorIndex := 74, attributes := #[] }, { accessFlags := 18, nameIndex := 77, descriptorIndex := 78, attributes := #[] }, { accessFlags := 2, nameIndex := 85, descriptorIndex := 98, attributes := #[] }, { accessFlags := 4122, nameIndex := 54, descriptorIndex := 55, attributes := #[] }])
  fields := #[{ name := "DATE", type := (.object "com/example/boundsmith/boundsmith/internal/TimeType"), accessFlags := 16409, slot := 0, constantValue := 0 }, { name := "CALENDAR", type := (.object "com/example/boundsmith/boundsmith/internal/TimeType"), accessFlags := 16409, slot := 1, constantValue := 0 }, { name := "INSTANT", type := (.object "com/example/boundsmith/boundsmith/internal/TimeType"), accessFlags := 16409, slot := 2, constantValue := 0 }, { name := "LOCAL_DATE", type := (.object "com/example/boundsmith/boundsmith/internal/TimeType"), accessFlags := 16409, slot := 3, constantValue := 0 }, { name := "LOCAL_DATE_TIME", type := (.object "com/example/boundsmith/boundsmith/internal/TimeType"), accessFlags := 16409, slot := 4, constantValue := 0 }, { name := "LOCAL_TIME", type := (.object "com/example/boundsmith/boundsmith/internal/TimeType"), accessFlags := 16409, slot := 5, constantValue := 0 }, { name := "MONTH_DAY", type := (.object "com/example/boundsmith/boundsmith/internal/TimeType"), accessFlags := 16409, slot := 6, constantValue := 0 }, { name := "OFFSET_DATE_TIME", type := (.object "com/example/boundsmith/boundsmith/internal/TimeType"), accessFlags := 16409, slot := 7, constantValue := 0 }, { name := "OFFSET_TIME", type := (.object "com/example/boundsmith/boundsmith/internal/TimeType"), accessFlags := 16409, slot := 8, constantValue := 0 }, { name := "YEAR", type := (.object "com/example/boundsmith/boundsmith/internal/TimeType"), accessFlags := 16409, slot := 9, constantValue := 0 }, { name := "YEAR_MONTH", type := (.object "com/example/boundsmith/boundsmith/internal/TimeType"), accessFlags := 16409, slot := 10, constantValue := 0 }, { name := "ZONED_DATE_TIME", type := (.object "com/example/boundsmith/boundsmith/internal/TimeType"), accessFlags := 16409, slot := 11, constantValue := 0 }, { name := "HIJRAH_DATE", type := (.object "com/example/boundsmith/boundsmith/internal/TimeType"), accessFlags := 16409, slot := 12, constantValue := 0 }, { name := "JAPANESE_DATE", type := (.object "com/example/boundsmith/boundsmith/internal/TimeType"), accessFlags := 16409, slot := 13, constantValue := 0 }, { name := "MINGUO_DATE", type := (.object "com/example/boundsmith/boundsmith/internal/TimeType"), accessFlags := 16409, slot := 14, constantValue := 0 }, { name := "THAI_BUDDHIST_DATE", type := (.object "com/example/boundsmith/boundsmith/internal/TimeType"), accessFlags := 16409, slot := 15, constantValue := 0 }, { name := "type", type := (.object "java/lang/Class"), accessFlags := 18, slot := 3, constantValue := 0 }, { name := "stepsPerSecond", type := .long, accessFlags := 18, slot := 4, constantValue := 0 }, { name := "ends", type := (.object "com/example/boundsmith/boundsmith/internal/TimeType$Ends"), accessFlags := 2, slot := 5, constantValue := 0 }, { name := "$VALUES", type := (.array (.object "com/example/boundsmith/boundsmith/internal/TimeType")), accessFlags := 4122, slot := 16, constantValue := 0 }]
  methods := #[k6m0]
  instanceTypes := #[(.object "java/lang/String"), .int, .int, (.object "java/lang/Class"), .long, (.object "com/example/boundsmith/boundsmith/internal/TimeType$Ends")]
  staticTypes := #[(.object "com/example/boundsmith/boundsmith/internal/TimeType"), (.object "com/example/boundsmith/boundsmith/internal/TimeType"), (.object "com/example/boundsmith/boundsmith/internal/TimeType"), (.object "com/example/boundsmith/boundsmith/internal/TimeType"), (.object "com/example/boundsmith/boundsmith/internal/TimeType"), (.object "com/example/boundsmith/boundsmith/internal/TimeType"), (.object "com/example/boundsmith/boundsmith/internal/TimeType"), (.object "com/example/boundsmith/boundsmith/internal/TimeType"), (.object "com/example/boundsmith/boundsmith/internal/TimeType"), (.object "com/example/boundsmith/boundsmith/internal/TimeType"), (.object "com/example/boundsmith/boundsmith/internal/TimeType"), (.object "com/example/boundsmith/boundsmith/internal/TimeType"), (.object "com/example/boundsmith/boundsmith/internal/TimeType"), (.object "com/example/boundsmith/boundsmith/internal/TimeType"), (.object "com/example/boundsmith/boundsmith/internal/TimeType"), (.object "com/example/boundsmith/boundsmith/internal/TimeType"), (.array (.object "com/example/boundsmith/boundsmith/internal/TimeType"))]
  resolved := Array.replicate 477 none
  statics := some 0 }

def pool7 : Array CpInfo := pool [(1, u "java/lang/Cloneable"), (0, .class_ 1), (0, u "java/lang/Object"), (0, .class_ 3)] 3

/-- java/lang/Cloneable -/
def k7 : Class := { plain "java/lang/Cloneable" (some 0) with
  accessFlags := 1537
  interfaces := #[]
  cf := some (fileOf pool7 2 #[] #[] 1537 4 #[] #[])
  fields := #[]
  methods := #[]
  instanceTypes := #[]
  staticTypes := #[]
  resolved := Array.replicate 8 none
  statics := none }

/-- the primitive byte -/
def k8 : Class := { plain "byte" none with kind := .primitive 'B', accessFlags := 0x411 }
/-- [B -/
def k9 : Class := { plain "[B" (some 0) with kind := .array 8 .byte, interfaces := #[7, 4], accessFlags := 1041 }

/-- the primitive int -/
def k10 : Class := { plain "int" none with kind := .primitive 'I', accessFlags := 0x411 }
/-- [I -/
def k11 : Class := { plain "[I" (some 0) with kind := .array 10 .int, interfaces := #[7, 4], accessFlags := 1041 }

def heap : Heap := #[{ cls := 6, slots := #[.ref 1, .ref 2, .ref 3, .ref 4, .ref 5, .ref 6, .ref 7, .ref 8, .ref 9, .ref 10, .ref 11, .ref 12, .ref 13, .ref 14, .ref 15, .ref 16, .null], vm := .statics 6 },
  { cls := 6, slots := #[.null, .int 0, .int 0, .null, .long 0, .null], vm := .none },
  { cls := 6, slots := #[.null, .int 1, .int 0, .null, .long 0, .null], vm := .none },
  { cls := 6, slots := #[.null, .int 2, .int 0, .null, .long 0, .null], vm := .none },
  { cls := 6, slots := #[.null, .int 3, .int 0, .null, .long 0, .null], vm := .none },
  { cls := 6, slots := #[.null, .int 4, .int 0, .null, .long 0, .null], vm := .none },
  { cls := 6, slots := #[.null, .int 5, .int 0, .null, .long 0, .null], vm := .none },
  { cls := 6, slots := #[.null, .int 6, .int 0, .null, .long 0, .null], vm := .none },
  { cls := 6, slots := #[.null, .int 7, .int 0, .null, .long 0, .null], vm := .none },
  { cls := 6, slots := #[.null, .int 8, .int 0, .null, .long 0, .null], vm := .none },
  { cls := 6, slots := #[.null, .int 9, .int 0, .null, .long 0, .null], vm := .none },
  { cls := 6, slots := #[.null, .int 10, .int 0, .null, .long 0, .null], vm := .none },
  { cls := 6, slots := #[.null, .int 11, .int 0, .null, .long 0, .null], vm := .none },
  { cls := 6, slots := #[.null, .int 12, .int 0, .null, .long 0, .null], vm := .none },
  { cls := 6, slots := #[.null, .int 13, .int 0, .null, .long 0, .null], vm := .none },
  { cls := 6, slots := #[.null, .int 14, .int 0, .null, .long 0, .null], vm := .none },
  { cls := 6, slots := #[.null, .int 15, .int 0, .null, .long 0, .null], vm := .none }]
def classes : Array Class := #[k0, k1, k2, k3, k4, k5, k6, k7, k8, k9, k10, k11]
def interned : List (Array UInt16 × Addr) := []
def slotsUsed : Nat := 113
def theMethod : MethodId := ⟨1, 3⟩
def args0 : Array Value := #[.int 5]
def aboutOver (below : List Frame) : State where
  vm := { classes := classes, interned := interned.toArray }
  heap := heap
  slotsUsed := slotsUsed
  threads := #[{ frames := .invoking theMethod args0 :: below }]
def below0 : List Frame := [.native { method := ⟨0, 0⟩, args := #[] }]
def about1 : State := aboutOver below0
def p0 : Program := .bare "" "" ""
def e0 : Env := launch0.env 0 0 0
theorem w_frames : about1.frames = Frame.invoking theMethod args0 :: below0 := rfl
set_option maxRecDepth 65536 in
theorem w_args : argsFit about1.vm theMethod args0 = true := by decide +kernel
set_option maxRecDepth 65536 in
theorem w_heap : heapFits about1 = true := by decide +kernel
set_option maxRecDepth 65536 in
theorem w_runnable : about1.curStatus? = some .runnable := by decide +kernel
set_option maxRecDepth 65536 in
theorem w_alone : about1.alone = true := by decide +kernel
set_option maxRecDepth 65536 in
theorem w_named : about1.methodNamed? x = some theMethod := by decide +kernel
set_option maxRecDepth 65536 in
theorem w_hears : about1.hears theMethod below0 = true := by decide +kernel
set_option maxRecDepth 65536 in
theorem w_ripe : about1.ripe theMethod args0 below0 = true := by decide +kernel
theorem w_running : about1.status = .running := rfl
set_option maxRecDepth 65536 in
theorem w_room : about1.hasRoom e0.platform room_1 = true :=
  launch0.hasRoom_least _ room_1 (by decide +kernel) (by decide +kernel) (by decide +kernel) (by decide +kernel) (by decide +kernel) (by decide +kernel)
theorem allAtoms_all (ts : List Jvm.Cond) (a : Array Jvm.Value) (st : Jvm.State) : (allAtoms ts).before a st = ts.all (fun c => c.before a st) := by
  induction ts with
  | nil => rfl
  | cons c t ih =>
    show (Jvm.Cond.and c (allAtoms t)).before a st = _
    rw [Jvm.Cond.before_and, ih, List.all_cons]
def words1 : List Jvm.Cond := Jvm.Cond.code x code maxLocals ret :: tables_1
/-- a 'code' word, met by the world's own term for the bytes: nothing is compared byte by byte -/
theorem code_word {y : MethodName} {bytes : ByteArray} {mx : Nat} {rt : Option FieldType} {a : Array Value} {s : State} {m : MethodId} {meth : Method} {c : Code} (h1 : s.methodNamed? y = some m) (h2 : s.vm.method? m = some meth) (h3 : meth.code = some c) (h4 : c.code = bytes)
    (h5 : (c.maxLocals == mx && c.exceptionTable.isEmpty && decide (c.maxStack ≤ mostOperands) && decide (meth.sig.returnType = rt) && !meth.locks && decide (parseMethodDescriptor y.desc = some meth.sig)) = true) : (Jvm.Cond.code y bytes mx rt).before a s = true := by
  simp only [Bool.and_eq_true, beq_iff_eq, Bool.not_eq_true', decide_eq_true_eq] at h5
  obtain ⟨⟨⟨⟨⟨g1, g2⟩, g3⟩, g4⟩, g5⟩, g6⟩ := h5
  simp [Cond.before, Cond.holds, Cond.value, h1, h2, h3, h4, g1, g2, g3, g4, g5, g6]
def isCode : Jvm.Cond → Bool
  | .code _ _ _ _ => true
  | _ => false
theorem all_split {L : List Jvm.Cond} {P : Jvm.Cond → Bool} (h1 : L.all (fun c => isCode c || P c) = true) (h2 : ∀ c ∈ L.filter isCode, P c = true) : L.all P = true := by
  refine List.all_eq_true.mpr fun c hc => ?_
  have h := List.all_eq_true.mp h1 c hc
  rcases Bool.eq_false_or_eq_true (isCode c) with hi | hi
  · exact h2 c (List.mem_filter.mpr ⟨hc, hi⟩)
  · simpa [hi] using h
set_option maxRecDepth 65536 in
theorem w_c0 : (Jvm.Cond.code x code maxLocals ret).before args0 about1 = true := code_word (m := ⟨1, 3⟩) (meth := k1m3) (c := k1c3) (by decide +kernel) rfl rfl rfl (by decide +kernel)
set_option maxRecDepth 65536 in
theorem w_c1 : (Jvm.Cond.code ({ cls := "com/example/boundsmith/boundsmith/internal/TimeTypeRepeatsPinLaw", name := "pick", desc := "(I)Lcom/example/boundsmith/boundsmith/internal/TimeType;" } : Jvm.MethodName) method_2_code (1 : Nat) (Option.some (Jvm.ClassFile.FieldType.object "com/example/boundsmith/boundsmith/internal/TimeType"))).before args0 about1 = true := code_word (m := ⟨1, 1⟩) (meth := k1m1) (c := k1c1) (by decide +kernel) rfl rfl rfl (by decide +kernel)
set_option maxRecDepth 65536 in
theorem w_c2 : (Jvm.Cond.code ({ cls := "com/example/boundsmith/boundsmith/internal/TimeType", name := "repeats", desc := "()Z" } : Jvm.MethodName) prog_62_method_10_code (1 : Nat) (Option.some Jvm.ClassFile.FieldType.boolean)).before args0 about1 = true := code_word (m := ⟨6, 0⟩) (meth := k6m0) (c := k6c0) (by decide +kernel) rfl rfl rfl (by decide +kernel)
set_option maxRecDepth 65536 in
theorem w_c3 : (Jvm.Cond.code ({ cls := "com/example/boundsmith/boundsmith/internal/TimeTypeRepeatsPinLaw", name := "cyclic", desc := "(I)Z" } : Jvm.MethodName) method_3_code (1 : Nat) (Option.some Jvm.ClassFile.FieldType.boolean)).before args0 about1 = true := code_word (m := ⟨1, 2⟩) (meth := k1m2) (c := k1c2) (by decide +kernel) rfl rfl rfl (by decide +kernel)
def codes1 : List Jvm.Cond := [Jvm.Cond.code x code maxLocals ret, Jvm.Cond.code ({ cls := "com/example/boundsmith/boundsmith/internal/TimeTypeRepeatsPinLaw", name := "pick", desc := "(I)Lcom/example/boundsmith/boundsmith/internal/TimeType;" } : Jvm.MethodName) method_2_code (1 : Nat) (Option.some (Jvm.ClassFile.FieldType.object "com/example/boundsmith/boundsmith/internal/TimeType")), Jvm.Cond.code ({ cls := "com/example/boundsmith/boundsmith/internal/TimeType", name := "repeats", desc := "()Z" } : Jvm.MethodName) prog_62_method_10_code (1 : Nat) (Option.some Jvm.ClassFile.FieldType.boolean), Jvm.Cond.code ({ cls := "com/example/boundsmith/boundsmith/internal/TimeTypeRepeatsPinLaw", name := "cyclic", desc := "(I)Z" } : Jvm.MethodName) method_3_code (1 : Nat) (Option.some Jvm.ClassFile.FieldType.boolean)]
set_option maxRecDepth 65536 in
theorem codes_eq : words1.filter isCode = codes1 := rfl
theorem w_codes : ∀ c ∈ words1.filter isCode, c.before args0 about1 = true := by
  rw [codes_eq]
  intro c hc
  simp only [codes1, List.mem_cons, List.not_mem_nil, or_false] at hc
  rcases hc with rfl | rfl | rfl | rfl
  · exact w_c0
  · exact w_c1
  · exact w_c2
  · exact w_c3
set_option maxRecDepth 65536 in
theorem w_t1 : (words1.take 24).all (fun c => isCode c || c.before args0 about1) = true := by decide +kernel
set_option maxRecDepth 65536 in
theorem w_t2 : ((words1.drop 24).take 24).all (fun c => isCode c || c.before args0 about1) = true := by decide +kernel
set_option maxRecDepth 65536 in
theorem w_t3 : ((words1.drop 24).drop 24).all (fun c => isCode c || c.before args0 about1) = true := by decide +kernel
theorem w_tables : (allAtoms (Jvm.Cond.code x code maxLocals ret :: tables_1)).before args0 about1 = true := by
  rw [allAtoms_all]
  show words1.all (fun c => c.before args0 about1) = true
  refine all_split ?_ w_codes
  rw [← List.take_append_drop 24 words1, List.all_append, w_t1, ← List.take_append_drop 24 (words1.drop 24), List.all_append, w_t2, w_t3]
  rfl
set_option maxRecDepth 65536 in
theorem w_case : (Jvm.Cond.and given_1 narrow_1).before args0 about1 = true := by decide +kernel
theorem w_applies : (headSpec (Jvm.Cond.code x code maxLocals ret :: tables_1) room_1).applies x e0.platform about1 = true :=
  (Spec.applies_iff w_frames).mpr ⟨w_running, w_runnable, w_alone, w_named, w_hears, w_ripe, w_room, w_tables⟩
theorem atStart : AtStart classFile x code maxLocals ret World_1 tables_1 room_1 Calls_1 rest_1 Pre_1 launch0 p0 e0 about1 theMethod args0 below0 :=
  ⟨lists_1, trivial, launch0.admits_env _ _ _, launch0.least_env, fairChoices_fair.cas, fairChoices_fair.clock, w_frames, w_args, w_heap, w_applies, trivial, trivial, w_case⟩
end start1
theorem witness_1 : WitnessClaimed_1 := ⟨start1.p0, start1.e0, start1.about1, start1.theMethod, start1.args0, start1.below0, start1.atStart⟩
end Jvm.Pilot.@@N@@
