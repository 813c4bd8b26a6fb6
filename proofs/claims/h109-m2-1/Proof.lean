import JvmDerived
import JvmDerived.Pilot.@@N@@Statement
import JvmDerived.Pilot.@@N@@Code
set_option linter.unusedVariables false
set_option linter.unusedSimpArgs false
namespace Jvm.RoadKit
open Sem ClassFile Op Lib Jvm.Stand Jvm.Free Jvm.LawKit
section New
variable {p : Program} {l : Launch} {e : Env} {R : Room} {s : State} {m : MethodId} {args : Array Value} {below : List Frame} {meth : Method} {c : Code} {T : State} {locs : List Loc} {cells slots : Nat}
theorem retI (X : Stand p l e R s m args below meth c T locs cells slots) (hx : p.tables.exec = Jvm.exec) {pc : Nat} {Ls : Array Slot} {z : Int32} {rest : List Value} (hret : meth.sig.returnType = some .int) (hd : decode c.code pc = .ok (.ireturn, 1)) {fs : List Frame}
    (hl : ∀ (f : JFrame) (acts : List Action), f.method = m → f.locked = none → f.entered = [] → (doReturn e (T.setTop f) acts (some (.int z))).1 = T.setFrames fs) : Steps p.tables e below (T.setTop (mkF m pc Ls (.int z :: rest))) (T.setFrames fs) := by
  have hm' : T.vm.method? m = some meth := X.method'
  have hn : narrow .int (.int z) = .int z := rfl
  show Steps p.tables e below (T.setTop { method := m, pc := pc, locals := Ls, stack := _ :: rest, locked := none }) _
  jvm_step X.here [X.here.top, hx, hd, hm', hret, hn]
  first | (intro acts; rw [hl _ acts rfl rfl rfl]) | rw [hl _ _ rfl rfl rfl]
  exact Steps.refl _
end New
end Jvm.RoadKit
namespace Jvm.Pilot.@@N@@
open Jvm Jvm.ClassFile Sem Op Lib Jvm.Free Jvm.Stand Jvm.LawKit Jvm.RoadKit Bundle Jvm.Pilot.@@N@@.Jvm.D
theorem own_tlt {a b : Int32} {x y : Int} (ha : a.toInt = x) (hb : b.toInt = y) (h : x < y) : if_icmp.holds .lt a b = true ∧ if_icmp.holds .ge a b = false ∧ if_icmp.holds .gt b a = true ∧ if_icmp.holds .le b a = false := tlt (Int32.lt_iff_toInt_lt.mpr (by rw [ha, hb]; exact h))
theorem own_flt {a b : Int32} {x y : Int} (ha : a.toInt = x) (hb : b.toInt = y) (h : ¬ x < y) : if_icmp.holds .lt a b = false ∧ if_icmp.holds .ge a b = true ∧ if_icmp.holds .gt b a = false ∧ if_icmp.holds .le b a = true := flt (fun q => h (by rw [← ha, ← hb]; exact Int32.lt_iff_toInt_lt.mp q))
theorem own_teq {a b : Int32} {x y : Int} (ha : a.toInt = x) (hb : b.toInt = y) (h : x = y) : if_icmp.holds .eq a b = true ∧ if_icmp.holds .ne a b = false := teq (Int32.toInt_inj.mp (by rw [ha, hb]; exact h))
theorem own_feq {a b : Int32} {x y : Int} (ha : a.toInt = x) (hb : b.toInt = y) (h : ¬ x = y) : if_icmp.holds .eq a b = false ∧ if_icmp.holds .ne a b = true := feq (fun q => h (by rw [← ha, ← hb, q]))
theorem own_if {cd : ClassFile.Cond} {x : Int32} {b : Bool} (h : if_icmp.holds cd x 0 = b) : ifCond.holds cd x = b := (if0 cd x).trans h
open Jvm.Free.Fl
def own_L0 : List Value := [(.double (4636737291354636288 : UInt64)), (.double (4636807660098813952 : UInt64)), (.double (4636878028842991616 : UInt64)), (.double (4636948397587169280 : UInt64)), (.double (4637018766331346944 : UInt64)), (.double (4637089135075524608 : UInt64)), (.double (4637159503819702272 : UInt64)), (.double (4637229872563879936 : UInt64)), (.double (4637300241308057600 : UInt64)), (.double (4637370610052235264 : UInt64)), (.double (4637440978796412928 : UInt64)), (.double (4637511347540590592 : UInt64)), (.double (4637581716284768256 : UInt64)), (.double (4637652085028945920 : UInt64)), (.double (4637722453773123584 : UInt64)), (.double (4637792822517301248 : UInt64))]
theorem own_fin {x : UInt64} (h : Fin64 x) : NoNaN64 x := by unfold Fin64 at h; unfold NoNaN64; exact UInt64.le_of_lt h
theorem own_mag {K : Nat} {x : UInt64} (h : Mag64 K x) (hK : K ≤ 2047) : NoNaN64 x := own_fin (h.fin hK)
def own_ok (vs : List Value) : Prop := ∀ i, i < 16 → ∃ x, vs.getD i (.double (0 : UInt64)) = .double x ∧ NoNaN64 x
theorem own_set_eq (l : List Value) (i : Nat) (v d : Value) (h : i < l.length) : (l.set i v).getD i d = v := by
  simp [List.getD_eq_getElem?_getD, h]
theorem own_set_ne (l : List Value) (i j : Nat) (v d : Value) (h : i ≠ j) : (l.set i v).getD j d = l.getD j d := by
  simp [List.getD_eq_getElem?_getD, List.getElem?_set_ne h]
theorem own_ok_set {vs : List Value} (h : own_ok vs) (hl : vs.length = 16) (i : Nat) (x : UInt64) (hx : NoNaN64 x) : own_ok (vs.set i (.double x)) := by
  intro j hj
  by_cases q : i = j
  · subst q; exact ⟨x, own_set_eq _ _ _ _ (by omega), hx⟩
  · rw [own_set_ne _ _ _ _ _ q]; exact h j hj
theorem own_ok0 : own_ok own_L0 := by
  intro i hi
  have c : i = 0 ∨ i = 1 ∨ i = 2 ∨ i = 3 ∨ i = 4 ∨ i = 5 ∨ i = 6 ∨ i = 7 ∨ i = 8 ∨ i = 9 ∨ i = 10 ∨ i = 11 ∨ i = 12 ∨ i = 13 ∨ i = 14 ∨ i = 15 := by omega
  rcases c with rfl | rfl | rfl | rfl | rfl | rfl | rfl | rfl | rfl | rfl | rfl | rfl | rfl | rfl | rfl | rfl <;> exact ⟨_, rfl, by unfold NoNaN64; decide⟩
theorem own_nat {j : Int32} {n : Nat} (h : j.toInt = (n : Int)) : j.toNatClampNeg = n := by
  unfold Int32.toNatClampNeg; rw [h]; rfl
theorem own_big4 : Big64 1025 (4616189618054758400 : UInt64) := by unfold Big64; decide
theorem own_big1024 : Big64 1033 (4652218415073722368 : UInt64) := by unfold Big64; decide
theorem d2_0 : decode method_3_code 0 = .ok (.aload_n 0, 1) := by decide +kernel
theorem d2_1 : decode method_3_code 1 = .ok (.iconst 0, 1) := by decide +kernel
theorem d2_2 : decode method_3_code 2 = .ok (.daload, 1) := by decide +kernel
theorem d2_3 : decode method_3_code 3 = .ok (.aload_n 1, 1) := by decide +kernel
theorem d2_4 : decode method_3_code 4 = .ok (.iconst 0, 1) := by decide +kernel
theorem d2_5 : decode method_3_code 5 = .ok (.daload, 1) := by decide +kernel
theorem d2_6 : decode method_3_code 6 = .ok (.dcmp .l, 1) := by decide +kernel
theorem d2_7 : decode method_3_code 7 = .ok (.ifCond .ne 177, 3) := by decide +kernel
theorem d2_10 : decode method_3_code 10 = .ok (.aload_n 0, 1) := by decide +kernel
theorem d2_11 : decode method_3_code 11 = .ok (.iconst 1, 1) := by decide +kernel
theorem d2_12 : decode method_3_code 12 = .ok (.daload, 1) := by decide +kernel
theorem d2_13 : decode method_3_code 13 = .ok (.aload_n 1, 1) := by decide +kernel
theorem d2_14 : decode method_3_code 14 = .ok (.iconst 1, 1) := by decide +kernel
theorem d2_15 : decode method_3_code 15 = .ok (.daload, 1) := by decide +kernel
theorem d2_16 : decode method_3_code 16 = .ok (.dcmp .l, 1) := by decide +kernel
theorem d2_17 : decode method_3_code 17 = .ok (.ifCond .ne 167, 3) := by decide +kernel
theorem d2_20 : decode method_3_code 20 = .ok (.aload_n 0, 1) := by decide +kernel
theorem d2_21 : decode method_3_code 21 = .ok (.iconst 2, 1) := by decide +kernel
theorem d2_22 : decode method_3_code 22 = .ok (.daload, 1) := by decide +kernel
theorem d2_23 : decode method_3_code 23 = .ok (.aload_n 1, 1) := by decide +kernel
theorem d2_24 : decode method_3_code 24 = .ok (.iconst 2, 1) := by decide +kernel
theorem d2_25 : decode method_3_code 25 = .ok (.daload, 1) := by decide +kernel
theorem d2_26 : decode method_3_code 26 = .ok (.dcmp .l, 1) := by decide +kernel
theorem d2_27 : decode method_3_code 27 = .ok (.ifCond .ne 157, 3) := by decide +kernel
theorem d2_30 : decode method_3_code 30 = .ok (.aload_n 0, 1) := by decide +kernel
theorem d2_31 : decode method_3_code 31 = .ok (.iconst 3, 1) := by decide +kernel
theorem d2_32 : decode method_3_code 32 = .ok (.daload, 1) := by decide +kernel
theorem d2_33 : decode method_3_code 33 = .ok (.aload_n 1, 1) := by decide +kernel
theorem d2_34 : decode method_3_code 34 = .ok (.iconst 3, 1) := by decide +kernel
theorem d2_35 : decode method_3_code 35 = .ok (.daload, 1) := by decide +kernel
theorem d2_36 : decode method_3_code 36 = .ok (.dcmp .l, 1) := by decide +kernel
theorem d2_37 : decode method_3_code 37 = .ok (.ifCond .ne 147, 3) := by decide +kernel
theorem d2_40 : decode method_3_code 40 = .ok (.aload_n 0, 1) := by decide +kernel
theorem d2_41 : decode method_3_code 41 = .ok (.iconst 4, 1) := by decide +kernel
theorem d2_42 : decode method_3_code 42 = .ok (.daload, 1) := by decide +kernel
theorem d2_43 : decode method_3_code 43 = .ok (.aload_n 1, 1) := by decide +kernel
theorem d2_44 : decode method_3_code 44 = .ok (.iconst 4, 1) := by decide +kernel
theorem d2_45 : decode method_3_code 45 = .ok (.daload, 1) := by decide +kernel
theorem d2_46 : decode method_3_code 46 = .ok (.dcmp .l, 1) := by decide +kernel
theorem d2_47 : decode method_3_code 47 = .ok (.ifCond .ne 137, 3) := by decide +kernel
theorem d2_50 : decode method_3_code 50 = .ok (.aload_n 0, 1) := by decide +kernel
theorem d2_51 : decode method_3_code 51 = .ok (.iconst 5, 1) := by decide +kernel
theorem d2_52 : decode method_3_code 52 = .ok (.daload, 1) := by decide +kernel
theorem d2_53 : decode method_3_code 53 = .ok (.aload_n 1, 1) := by decide +kernel
theorem d2_54 : decode method_3_code 54 = .ok (.iconst 5, 1) := by decide +kernel
theorem d2_55 : decode method_3_code 55 = .ok (.daload, 1) := by decide +kernel
theorem d2_56 : decode method_3_code 56 = .ok (.dcmp .l, 1) := by decide +kernel
theorem d2_57 : decode method_3_code 57 = .ok (.ifCond .ne 127, 3) := by decide +kernel
theorem d2_60 : decode method_3_code 60 = .ok (.aload_n 0, 1) := by decide +kernel
theorem d2_61 : decode method_3_code 61 = .ok (.bipush 6, 2) := by decide +kernel
theorem d2_63 : decode method_3_code 63 = .ok (.daload, 1) := by decide +kernel
theorem d2_64 : decode method_3_code 64 = .ok (.aload_n 1, 1) := by decide +kernel
theorem d2_65 : decode method_3_code 65 = .ok (.bipush 6, 2) := by decide +kernel
theorem d2_67 : decode method_3_code 67 = .ok (.daload, 1) := by decide +kernel
theorem d2_68 : decode method_3_code 68 = .ok (.dcmp .l, 1) := by decide +kernel
theorem d2_69 : decode method_3_code 69 = .ok (.ifCond .ne 115, 3) := by decide +kernel
theorem d2_72 : decode method_3_code 72 = .ok (.aload_n 0, 1) := by decide +kernel
theorem d2_73 : decode method_3_code 73 = .ok (.bipush 7, 2) := by decide +kernel
theorem d2_75 : decode method_3_code 75 = .ok (.daload, 1) := by decide +kernel
theorem d2_76 : decode method_3_code 76 = .ok (.aload_n 1, 1) := by decide +kernel
theorem d2_77 : decode method_3_code 77 = .ok (.bipush 7, 2) := by decide +kernel
theorem d2_79 : decode method_3_code 79 = .ok (.daload, 1) := by decide +kernel
theorem d2_80 : decode method_3_code 80 = .ok (.dcmp .l, 1) := by decide +kernel
theorem d2_81 : decode method_3_code 81 = .ok (.ifCond .ne 103, 3) := by decide +kernel
theorem d2_84 : decode method_3_code 84 = .ok (.aload_n 0, 1) := by decide +kernel
theorem d2_85 : decode method_3_code 85 = .ok (.bipush 8, 2) := by decide +kernel
theorem d2_87 : decode method_3_code 87 = .ok (.daload, 1) := by decide +kernel
theorem d2_88 : decode method_3_code 88 = .ok (.aload_n 1, 1) := by decide +kernel
theorem d2_89 : decode method_3_code 89 = .ok (.bipush 8, 2) := by decide +kernel
theorem d2_91 : decode method_3_code 91 = .ok (.daload, 1) := by decide +kernel
theorem d2_92 : decode method_3_code 92 = .ok (.dcmp .l, 1) := by decide +kernel
theorem d2_93 : decode method_3_code 93 = .ok (.ifCond .ne 91, 3) := by decide +kernel
theorem d2_96 : decode method_3_code 96 = .ok (.aload_n 0, 1) := by decide +kernel
theorem d2_97 : decode method_3_code 97 = .ok (.bipush 9, 2) := by decide +kernel
theorem d2_99 : decode method_3_code 99 = .ok (.daload, 1) := by decide +kernel
theorem d2_100 : decode method_3_code 100 = .ok (.aload_n 1, 1) := by decide +kernel
theorem d2_101 : decode method_3_code 101 = .ok (.bipush 9, 2) := by decide +kernel
theorem d2_103 : decode method_3_code 103 = .ok (.daload, 1) := by decide +kernel
theorem d2_104 : decode method_3_code 104 = .ok (.dcmp .l, 1) := by decide +kernel
theorem d2_105 : decode method_3_code 105 = .ok (.ifCond .ne 79, 3) := by decide +kernel
theorem d2_108 : decode method_3_code 108 = .ok (.aload_n 0, 1) := by decide +kernel
theorem d2_109 : decode method_3_code 109 = .ok (.bipush 10, 2) := by decide +kernel
theorem d2_111 : decode method_3_code 111 = .ok (.daload, 1) := by decide +kernel
theorem d2_112 : decode method_3_code 112 = .ok (.aload_n 1, 1) := by decide +kernel
theorem d2_113 : decode method_3_code 113 = .ok (.bipush 10, 2) := by decide +kernel
theorem d2_115 : decode method_3_code 115 = .ok (.daload, 1) := by decide +kernel
theorem d2_116 : decode method_3_code 116 = .ok (.dcmp .l, 1) := by decide +kernel
theorem d2_117 : decode method_3_code 117 = .ok (.ifCond .ne 67, 3) := by decide +kernel
theorem d2_120 : decode method_3_code 120 = .ok (.aload_n 0, 1) := by decide +kernel
theorem d2_121 : decode method_3_code 121 = .ok (.bipush 11, 2) := by decide +kernel
theorem d2_123 : decode method_3_code 123 = .ok (.daload, 1) := by decide +kernel
theorem d2_124 : decode method_3_code 124 = .ok (.aload_n 1, 1) := by decide +kernel
theorem d2_125 : decode method_3_code 125 = .ok (.bipush 11, 2) := by decide +kernel
theorem d2_127 : decode method_3_code 127 = .ok (.daload, 1) := by decide +kernel
theorem d2_128 : decode method_3_code 128 = .ok (.dcmp .l, 1) := by decide +kernel
theorem d2_129 : decode method_3_code 129 = .ok (.ifCond .ne 55, 3) := by decide +kernel
theorem d2_132 : decode method_3_code 132 = .ok (.aload_n 0, 1) := by decide +kernel
theorem d2_133 : decode method_3_code 133 = .ok (.bipush 12, 2) := by decide +kernel
theorem d2_135 : decode method_3_code 135 = .ok (.daload, 1) := by decide +kernel
theorem d2_136 : decode method_3_code 136 = .ok (.aload_n 1, 1) := by decide +kernel
theorem d2_137 : decode method_3_code 137 = .ok (.bipush 12, 2) := by decide +kernel
theorem d2_139 : decode method_3_code 139 = .ok (.daload, 1) := by decide +kernel
theorem d2_140 : decode method_3_code 140 = .ok (.dcmp .l, 1) := by decide +kernel
theorem d2_141 : decode method_3_code 141 = .ok (.ifCond .ne 43, 3) := by decide +kernel
theorem d2_144 : decode method_3_code 144 = .ok (.aload_n 0, 1) := by decide +kernel
theorem d2_145 : decode method_3_code 145 = .ok (.bipush 13, 2) := by decide +kernel
theorem d2_147 : decode method_3_code 147 = .ok (.daload, 1) := by decide +kernel
theorem d2_148 : decode method_3_code 148 = .ok (.aload_n 1, 1) := by decide +kernel
theorem d2_149 : decode method_3_code 149 = .ok (.bipush 13, 2) := by decide +kernel
theorem d2_151 : decode method_3_code 151 = .ok (.daload, 1) := by decide +kernel
theorem d2_152 : decode method_3_code 152 = .ok (.dcmp .l, 1) := by decide +kernel
theorem d2_153 : decode method_3_code 153 = .ok (.ifCond .ne 31, 3) := by decide +kernel
theorem d2_156 : decode method_3_code 156 = .ok (.aload_n 0, 1) := by decide +kernel
theorem d2_157 : decode method_3_code 157 = .ok (.bipush 14, 2) := by decide +kernel
theorem d2_159 : decode method_3_code 159 = .ok (.daload, 1) := by decide +kernel
theorem d2_160 : decode method_3_code 160 = .ok (.aload_n 1, 1) := by decide +kernel
theorem d2_161 : decode method_3_code 161 = .ok (.bipush 14, 2) := by decide +kernel
theorem d2_163 : decode method_3_code 163 = .ok (.daload, 1) := by decide +kernel
theorem d2_164 : decode method_3_code 164 = .ok (.dcmp .l, 1) := by decide +kernel
theorem d2_165 : decode method_3_code 165 = .ok (.ifCond .ne 19, 3) := by decide +kernel
theorem d2_168 : decode method_3_code 168 = .ok (.aload_n 0, 1) := by decide +kernel
theorem d2_169 : decode method_3_code 169 = .ok (.bipush 15, 2) := by decide +kernel
theorem d2_171 : decode method_3_code 171 = .ok (.daload, 1) := by decide +kernel
theorem d2_172 : decode method_3_code 172 = .ok (.aload_n 1, 1) := by decide +kernel
theorem d2_173 : decode method_3_code 173 = .ok (.bipush 15, 2) := by decide +kernel
theorem d2_175 : decode method_3_code 175 = .ok (.daload, 1) := by decide +kernel
theorem d2_176 : decode method_3_code 176 = .ok (.dcmp .l, 1) := by decide +kernel
theorem d2_177 : decode method_3_code 177 = .ok (.ifCond .ne 7, 3) := by decide +kernel
theorem d2_180 : decode method_3_code 180 = .ok (.iconst 1, 1) := by decide +kernel
theorem d2_181 : decode method_3_code 181 = .ok (.goto 4, 3) := by decide +kernel
theorem d2_185 : decode method_3_code 185 = .ok (.ireturn, 1) := by decide +kernel
theorem pn_0 : plainName "com/example/mod7/mod7/regressors/DayCountsMovePinLaw" = true := by first | (simp [plainName, overriddenIn]; done) | decide +kernel
theorem ef_rm2 (m : MethodId) (x0 : Addr) (x1 : Addr) : entryFrame m #[(.ref x0), (.ref x1)] 2 = mkF m 0 #[.val (.ref x0), .val (.ref x1)] [] := by first | (simp [entryFrame, mkF, argsToLocals, Value.category]; done) | rfl
def Q2 (Z : State) (oc : Addr) (oe : Addr) (kc : ClassId) (ke : ClassId) (vs : List Value) (h0 : Heap) (n0 : Nat) (v : Option Value) (h : Heap) (L : List Loc) : Prop := ∃ z : Int32, v = some (.int z) ∧ (z = (1 : Int32)) ∧ Fr n0 L ∧ h = h0
set_option maxRecDepth 65536 in
set_option maxHeartbeats 40000000 in
theorem rm2 (l : Launch) (Z : State) (a0 : Array Value) (hw : ∀ d ∈ tables_1, d.before a0 Z = true) (ws : List Jvm.Cond) (oc : Addr) (oe : Addr) (kc : ClassId) (ke : ClassId) (vs : List Value) (h0 : Heap) (n0 : Nat) (Z0 : n0 ≤ h0.size) (Vc : Arv Z h0 oc kc .double (16 : Int32) vs (.double (0 : UInt64))) (Ve : Arv Z h0 oe ke .double (16 : Int32) vs (.double (0 : UInt64))) (ok : own_ok vs) :
    MetFree l (⟨"com/example/mod7/mod7/regressors/DayCountsMovePinLaw", "same", "([D[D)Z"⟩ : MethodName) (head1 (Jvm.Cond.code (⟨"com/example/mod7/mod7/regressors/DayCountsMovePinLaw", "same", "([D[D)Z"⟩ : MethodName) method_3_code 2 (some .boolean) :: ws) ({ frames := 0, cells := 0, slots := 0, locals := 0 } : Room)) (fun a U => a = #[(.ref oc), (.ref oe)] ∧ Z.Warmed39 U.vm ∧ U.heap = h0) (fun _ _ _ _ _ => True) (fun _ U o U' => ∃ v L, o = .returned v ∧ Q2 Z oc oe kc ke vs h0 n0 v U'.heap L ∧ FrameEnd U o U' L ({ frames := 0, cells := 0, slots := 0, locals := 0 } : Room).cells ({ frames := 0, cells := 0, slots := 0, locals := 0 } : Room).slots) := by
  refine MetFree.of_bodySF (plainFor_of_name pn_0) hisR ?_
  intro p e s m args below meth c s₁ Bd hml0 hP hK
  obtain ⟨rfl, hZ, hh⟩ := hP
  have hx := Bd.exec
  have hby := Bd.bytes
  have hml : c.maxLocals = 2 := hml0
  have hown : s.vm.findClass "com/example/mod7/mod7/regressors/DayCountsMovePinLaw" = some m.cls := findClass_of_methodNamed Bd.named
  have hnm := (name_of_methodNamed Bd.named Bd.method).1
  have X0 : Stand p l e ({ frames := 0, cells := 0, slots := 0, locals := 0 } : Room) s m #[(.ref oc), (.ref oe)] below meth c s₁ [] 0 0 := Stand.of_body Bd
  have e0 : s₁.heap = h0 := by rw [← hh, Bd.state]; rfl
  have N0 := Fr.nil n0
  have pre0 : ∀ t, Steps p.tables e below (s₁.setTop (mkF m 0 #[.val (.ref oc), .val (.ref oe)] [])) t → Steps p.tables e below (s₁.setTop (entryFrame m #[(.ref oc), (.ref oe)] 2)) t := fun t k => castTop (ef_rm2 m oc oe) k
  obtain ⟨cl1, Ar1, q1, S1, M1, H1, G1⟩ := id Vc
  have hin1 : ¬ ((0 : Int32) < 0 ∨ cl1.slots.size ≤ ((0 : Int32)).toNatClampNeg) := inb_of S1 ⟨by decide, by decide⟩
  obtain ⟨x0, hx0, nx0⟩ := ok 0 (by decide)
  have hat1 : cl1.slots[((0 : Int32)).toNatClampNeg]? = some (.double x0) := Has.at H1 hin1 hx0
  obtain ⟨cl2, Ar2, q2, S2, M2, H2, G2⟩ := id Ve
  have hin2 : ¬ ((0 : Int32) < 0 ∨ cl2.slots.size ≤ ((0 : Int32)).toNatClampNeg) := inb_of S2 ⟨by decide, by decide⟩
  have hat2 : cl2.slots[((0 : Int32)).toNatClampNeg]? = some (.double x0) := Has.at H2 hin2 hx0
  have hc7_3 : (0 : Int) = (0 : Int) := by decide
  obtain ⟨cl4, Ar4, q4, S4, M4, H4, G4⟩ := id Vc
  have hin4 : ¬ ((1 : Int32) < 0 ∨ cl4.slots.size ≤ ((1 : Int32)).toNatClampNeg) := inb_of S4 ⟨by decide, by decide⟩
  obtain ⟨x1, hx1, nx1⟩ := ok 1 (by decide)
  have hat4 : cl4.slots[((1 : Int32)).toNatClampNeg]? = some (.double x1) := Has.at H4 hin4 hx1
  obtain ⟨cl5, Ar5, q5, S5, M5, H5, G5⟩ := id Ve
  have hin5 : ¬ ((1 : Int32) < 0 ∨ cl5.slots.size ≤ ((1 : Int32)).toNatClampNeg) := inb_of S5 ⟨by decide, by decide⟩
  have hat5 : cl5.slots[((1 : Int32)).toNatClampNeg]? = some (.double x1) := Has.at H5 hin5 hx1
  have hc17_6 : (0 : Int) = (0 : Int) := by decide
  obtain ⟨cl7, Ar7, q7, S7, M7, H7, G7⟩ := id Vc
  have hin7 : ¬ ((2 : Int32) < 0 ∨ cl7.slots.size ≤ ((2 : Int32)).toNatClampNeg) := inb_of S7 ⟨by decide, by decide⟩
  obtain ⟨x2, hx2, nx2⟩ := ok 2 (by decide)
  have hat7 : cl7.slots[((2 : Int32)).toNatClampNeg]? = some (.double x2) := Has.at H7 hin7 hx2
  obtain ⟨cl8, Ar8, q8, S8, M8, H8, G8⟩ := id Ve
  have hin8 : ¬ ((2 : Int32) < 0 ∨ cl8.slots.size ≤ ((2 : Int32)).toNatClampNeg) := inb_of S8 ⟨by decide, by decide⟩
  have hat8 : cl8.slots[((2 : Int32)).toNatClampNeg]? = some (.double x2) := Has.at H8 hin8 hx2
  have hc27_9 : (0 : Int) = (0 : Int) := by decide
  obtain ⟨cl10, Ar10, q10, S10, M10, H10, G10⟩ := id Vc
  have hin10 : ¬ ((3 : Int32) < 0 ∨ cl10.slots.size ≤ ((3 : Int32)).toNatClampNeg) := inb_of S10 ⟨by decide, by decide⟩
  obtain ⟨x3, hx3, nx3⟩ := ok 3 (by decide)
  have hat10 : cl10.slots[((3 : Int32)).toNatClampNeg]? = some (.double x3) := Has.at H10 hin10 hx3
  obtain ⟨cl11, Ar11, q11, S11, M11, H11, G11⟩ := id Ve
  have hin11 : ¬ ((3 : Int32) < 0 ∨ cl11.slots.size ≤ ((3 : Int32)).toNatClampNeg) := inb_of S11 ⟨by decide, by decide⟩
  have hat11 : cl11.slots[((3 : Int32)).toNatClampNeg]? = some (.double x3) := Has.at H11 hin11 hx3
  have hc37_12 : (0 : Int) = (0 : Int) := by decide
  obtain ⟨cl13, Ar13, q13, S13, M13, H13, G13⟩ := id Vc
  have hin13 : ¬ ((4 : Int32) < 0 ∨ cl13.slots.size ≤ ((4 : Int32)).toNatClampNeg) := inb_of S13 ⟨by decide, by decide⟩
  obtain ⟨x4, hx4, nx4⟩ := ok 4 (by decide)
  have hat13 : cl13.slots[((4 : Int32)).toNatClampNeg]? = some (.double x4) := Has.at H13 hin13 hx4
  obtain ⟨cl14, Ar14, q14, S14, M14, H14, G14⟩ := id Ve
  have hin14 : ¬ ((4 : Int32) < 0 ∨ cl14.slots.size ≤ ((4 : Int32)).toNatClampNeg) := inb_of S14 ⟨by decide, by decide⟩
  have hat14 : cl14.slots[((4 : Int32)).toNatClampNeg]? = some (.double x4) := Has.at H14 hin14 hx4
  have hc47_15 : (0 : Int) = (0 : Int) := by decide
  obtain ⟨cl16, Ar16, q16, S16, M16, H16, G16⟩ := id Vc
  have hin16 : ¬ ((5 : Int32) < 0 ∨ cl16.slots.size ≤ ((5 : Int32)).toNatClampNeg) := inb_of S16 ⟨by decide, by decide⟩
  obtain ⟨x5, hx5, nx5⟩ := ok 5 (by decide)
  have hat16 : cl16.slots[((5 : Int32)).toNatClampNeg]? = some (.double x5) := Has.at H16 hin16 hx5
  obtain ⟨cl17, Ar17, q17, S17, M17, H17, G17⟩ := id Ve
  have hin17 : ¬ ((5 : Int32) < 0 ∨ cl17.slots.size ≤ ((5 : Int32)).toNatClampNeg) := inb_of S17 ⟨by decide, by decide⟩
  have hat17 : cl17.slots[((5 : Int32)).toNatClampNeg]? = some (.double x5) := Has.at H17 hin17 hx5
  have hc57_18 : (0 : Int) = (0 : Int) := by decide
  obtain ⟨cl19, Ar19, q19, S19, M19, H19, G19⟩ := id Vc
  have hin19 : ¬ ((6 : Int32) < 0 ∨ cl19.slots.size ≤ ((6 : Int32)).toNatClampNeg) := inb_of S19 ⟨by decide, by decide⟩
  obtain ⟨x6, hx6, nx6⟩ := ok 6 (by decide)
  have hat19 : cl19.slots[((6 : Int32)).toNatClampNeg]? = some (.double x6) := Has.at H19 hin19 hx6
  obtain ⟨cl20, Ar20, q20, S20, M20, H20, G20⟩ := id Ve
  have hin20 : ¬ ((6 : Int32) < 0 ∨ cl20.slots.size ≤ ((6 : Int32)).toNatClampNeg) := inb_of S20 ⟨by decide, by decide⟩
  have hat20 : cl20.slots[((6 : Int32)).toNatClampNeg]? = some (.double x6) := Has.at H20 hin20 hx6
  have hc69_21 : (0 : Int) = (0 : Int) := by decide
  obtain ⟨cl22, Ar22, q22, S22, M22, H22, G22⟩ := id Vc
  have hin22 : ¬ ((7 : Int32) < 0 ∨ cl22.slots.size ≤ ((7 : Int32)).toNatClampNeg) := inb_of S22 ⟨by decide, by decide⟩
  obtain ⟨x7, hx7, nx7⟩ := ok 7 (by decide)
  have hat22 : cl22.slots[((7 : Int32)).toNatClampNeg]? = some (.double x7) := Has.at H22 hin22 hx7
  obtain ⟨cl23, Ar23, q23, S23, M23, H23, G23⟩ := id Ve
  have hin23 : ¬ ((7 : Int32) < 0 ∨ cl23.slots.size ≤ ((7 : Int32)).toNatClampNeg) := inb_of S23 ⟨by decide, by decide⟩
  have hat23 : cl23.slots[((7 : Int32)).toNatClampNeg]? = some (.double x7) := Has.at H23 hin23 hx7
  have hc81_24 : (0 : Int) = (0 : Int) := by decide
  obtain ⟨cl25, Ar25, q25, S25, M25, H25, G25⟩ := id Vc
  have hin25 : ¬ ((8 : Int32) < 0 ∨ cl25.slots.size ≤ ((8 : Int32)).toNatClampNeg) := inb_of S25 ⟨by decide, by decide⟩
  obtain ⟨x8, hx8, nx8⟩ := ok 8 (by decide)
  have hat25 : cl25.slots[((8 : Int32)).toNatClampNeg]? = some (.double x8) := Has.at H25 hin25 hx8
  obtain ⟨cl26, Ar26, q26, S26, M26, H26, G26⟩ := id Ve
  have hin26 : ¬ ((8 : Int32) < 0 ∨ cl26.slots.size ≤ ((8 : Int32)).toNatClampNeg) := inb_of S26 ⟨by decide, by decide⟩
  have hat26 : cl26.slots[((8 : Int32)).toNatClampNeg]? = some (.double x8) := Has.at H26 hin26 hx8
  have hc93_27 : (0 : Int) = (0 : Int) := by decide
  obtain ⟨cl28, Ar28, q28, S28, M28, H28, G28⟩ := id Vc
  have hin28 : ¬ ((9 : Int32) < 0 ∨ cl28.slots.size ≤ ((9 : Int32)).toNatClampNeg) := inb_of S28 ⟨by decide, by decide⟩
  obtain ⟨x9, hx9, nx9⟩ := ok 9 (by decide)
  have hat28 : cl28.slots[((9 : Int32)).toNatClampNeg]? = some (.double x9) := Has.at H28 hin28 hx9
  obtain ⟨cl29, Ar29, q29, S29, M29, H29, G29⟩ := id Ve
  have hin29 : ¬ ((9 : Int32) < 0 ∨ cl29.slots.size ≤ ((9 : Int32)).toNatClampNeg) := inb_of S29 ⟨by decide, by decide⟩
  have hat29 : cl29.slots[((9 : Int32)).toNatClampNeg]? = some (.double x9) := Has.at H29 hin29 hx9
  have hc105_30 : (0 : Int) = (0 : Int) := by decide
  obtain ⟨cl31, Ar31, q31, S31, M31, H31, G31⟩ := id Vc
  have hin31 : ¬ ((10 : Int32) < 0 ∨ cl31.slots.size ≤ ((10 : Int32)).toNatClampNeg) := inb_of S31 ⟨by decide, by decide⟩
  obtain ⟨x10, hx10, nx10⟩ := ok 10 (by decide)
  have hat31 : cl31.slots[((10 : Int32)).toNatClampNeg]? = some (.double x10) := Has.at H31 hin31 hx10
  obtain ⟨cl32, Ar32, q32, S32, M32, H32, G32⟩ := id Ve
  have hin32 : ¬ ((10 : Int32) < 0 ∨ cl32.slots.size ≤ ((10 : Int32)).toNatClampNeg) := inb_of S32 ⟨by decide, by decide⟩
  have hat32 : cl32.slots[((10 : Int32)).toNatClampNeg]? = some (.double x10) := Has.at H32 hin32 hx10
  have hc117_33 : (0 : Int) = (0 : Int) := by decide
  obtain ⟨cl34, Ar34, q34, S34, M34, H34, G34⟩ := id Vc
  have hin34 : ¬ ((11 : Int32) < 0 ∨ cl34.slots.size ≤ ((11 : Int32)).toNatClampNeg) := inb_of S34 ⟨by decide, by decide⟩
  obtain ⟨x11, hx11, nx11⟩ := ok 11 (by decide)
  have hat34 : cl34.slots[((11 : Int32)).toNatClampNeg]? = some (.double x11) := Has.at H34 hin34 hx11
  obtain ⟨cl35, Ar35, q35, S35, M35, H35, G35⟩ := id Ve
  have hin35 : ¬ ((11 : Int32) < 0 ∨ cl35.slots.size ≤ ((11 : Int32)).toNatClampNeg) := inb_of S35 ⟨by decide, by decide⟩
  have hat35 : cl35.slots[((11 : Int32)).toNatClampNeg]? = some (.double x11) := Has.at H35 hin35 hx11
  have hc129_36 : (0 : Int) = (0 : Int) := by decide
  obtain ⟨cl37, Ar37, q37, S37, M37, H37, G37⟩ := id Vc
  have hin37 : ¬ ((12 : Int32) < 0 ∨ cl37.slots.size ≤ ((12 : Int32)).toNatClampNeg) := inb_of S37 ⟨by decide, by decide⟩
  obtain ⟨x12, hx12, nx12⟩ := ok 12 (by decide)
  have hat37 : cl37.slots[((12 : Int32)).toNatClampNeg]? = some (.double x12) := Has.at H37 hin37 hx12
  obtain ⟨cl38, Ar38, q38, S38, M38, H38, G38⟩ := id Ve
  have hin38 : ¬ ((12 : Int32) < 0 ∨ cl38.slots.size ≤ ((12 : Int32)).toNatClampNeg) := inb_of S38 ⟨by decide, by decide⟩
  have hat38 : cl38.slots[((12 : Int32)).toNatClampNeg]? = some (.double x12) := Has.at H38 hin38 hx12
  have hc141_39 : (0 : Int) = (0 : Int) := by decide
  obtain ⟨cl40, Ar40, q40, S40, M40, H40, G40⟩ := id Vc
  have hin40 : ¬ ((13 : Int32) < 0 ∨ cl40.slots.size ≤ ((13 : Int32)).toNatClampNeg) := inb_of S40 ⟨by decide, by decide⟩
  obtain ⟨x13, hx13, nx13⟩ := ok 13 (by decide)
  have hat40 : cl40.slots[((13 : Int32)).toNatClampNeg]? = some (.double x13) := Has.at H40 hin40 hx13
  obtain ⟨cl41, Ar41, q41, S41, M41, H41, G41⟩ := id Ve
  have hin41 : ¬ ((13 : Int32) < 0 ∨ cl41.slots.size ≤ ((13 : Int32)).toNatClampNeg) := inb_of S41 ⟨by decide, by decide⟩
  have hat41 : cl41.slots[((13 : Int32)).toNatClampNeg]? = some (.double x13) := Has.at H41 hin41 hx13
  have hc153_42 : (0 : Int) = (0 : Int) := by decide
  obtain ⟨cl43, Ar43, q43, S43, M43, H43, G43⟩ := id Vc
  have hin43 : ¬ ((14 : Int32) < 0 ∨ cl43.slots.size ≤ ((14 : Int32)).toNatClampNeg) := inb_of S43 ⟨by decide, by decide⟩
  obtain ⟨x14, hx14, nx14⟩ := ok 14 (by decide)
  have hat43 : cl43.slots[((14 : Int32)).toNatClampNeg]? = some (.double x14) := Has.at H43 hin43 hx14
  obtain ⟨cl44, Ar44, q44, S44, M44, H44, G44⟩ := id Ve
  have hin44 : ¬ ((14 : Int32) < 0 ∨ cl44.slots.size ≤ ((14 : Int32)).toNatClampNeg) := inb_of S44 ⟨by decide, by decide⟩
  have hat44 : cl44.slots[((14 : Int32)).toNatClampNeg]? = some (.double x14) := Has.at H44 hin44 hx14
  have hc165_45 : (0 : Int) = (0 : Int) := by decide
  obtain ⟨cl46, Ar46, q46, S46, M46, H46, G46⟩ := id Vc
  have hin46 : ¬ ((15 : Int32) < 0 ∨ cl46.slots.size ≤ ((15 : Int32)).toNatClampNeg) := inb_of S46 ⟨by decide, by decide⟩
  obtain ⟨x15, hx15, nx15⟩ := ok 15 (by decide)
  have hat46 : cl46.slots[((15 : Int32)).toNatClampNeg]? = some (.double x15) := Has.at H46 hin46 hx15
  obtain ⟨cl47, Ar47, q47, S47, M47, H47, G47⟩ := id Ve
  have hin47 : ¬ ((15 : Int32) < 0 ∨ cl47.slots.size ≤ ((15 : Int32)).toNatClampNeg) := inb_of S47 ⟨by decide, by decide⟩
  have hat47 : cl47.slots[((15 : Int32)).toNatClampNeg]? = some (.double x15) := Has.at H47 hin47 hx15
  have hc177_48 : (0 : Int) = (0 : Int) := by decide
  obtain ⟨fs, hr, hrun, hended, hW, hsame⟩ := X0.leave (v := some (.int (1 : Int32))) (fun h => by rw [Bd.returns] at h; cases h)
  refine ⟨_, _, pre0 _ ?_, hrun, hended, _, _, rfl, ?_, ⟨_, rfl⟩, hW, hsame.mono (by decide) (by decide)⟩
  · refine XS.aloadN X0.here hx rfl (hb hby d2_0) rfl rfl ?_
    refine XS.iconst X0.here hx rfl (hb hby d2_1) ?_
    refine X0.daload hx (j := (0 : Int32)) (v := (.double x0)) (by rw [e0]; exact Ar1.1) (State.isArrayOf_alike hZ.alike Ar1.2.1) Ar1.2.2 hin1 hat1 (g := (mkF m 2 #[.val (.ref oc), .val (.ref oe)] [(.int (0 : Int32)), (.ref oc)])) rfl rfl (hb hby d2_2) _ ?_
    refine XS.aloadN X0.here hx rfl (hb hby d2_3) rfl rfl ?_
    show Steps p.tables e below (s₁.setTop (mkF m 4 #[.val (.ref oc), .val (.ref oe)] [(.ref oe), (.double x0)])) _
    refine XS.iconst X0.here hx rfl (hb hby d2_4) ?_
    refine X0.daload hx (j := (0 : Int32)) (v := (.double x0)) (by rw [e0]; exact Ar2.1) (State.isArrayOf_alike hZ.alike Ar2.2.1) Ar2.2.2 hin2 hat2 (g := (mkF m 5 #[.val (.ref oc), .val (.ref oe)] [(.int (0 : Int32)), (.ref oe), (.double x0)])) rfl rfl (hb hby d2_5) _ ?_
    refine XS.dcmpS X0.here hx rfl (hb hby d2_6) rfl (dcmpV_self nx0 .l) ?_
    refine XS.ifNo X0.here hx rfl (hb hby d2_7) rfl (own_if (own_teq (a := (0 : Int32)) (b := (0 : Int32)) (by decide) (by decide) hc7_3).2) ?_
    refine XS.aloadN X0.here hx rfl (hb hby d2_10) rfl rfl ?_
    show Steps p.tables e below (s₁.setTop (mkF m 11 #[.val (.ref oc), .val (.ref oe)] [(.ref oc)])) _
    refine XS.iconst X0.here hx rfl (hb hby d2_11) ?_
    refine X0.daload hx (j := (1 : Int32)) (v := (.double x1)) (by rw [e0]; exact Ar4.1) (State.isArrayOf_alike hZ.alike Ar4.2.1) Ar4.2.2 hin4 hat4 (g := (mkF m 12 #[.val (.ref oc), .val (.ref oe)] [(.int (1 : Int32)), (.ref oc)])) rfl rfl (hb hby d2_12) _ ?_
    refine XS.aloadN X0.here hx rfl (hb hby d2_13) rfl rfl ?_
    refine XS.iconst X0.here hx rfl (hb hby d2_14) ?_
    refine X0.daload hx (j := (1 : Int32)) (v := (.double x1)) (by rw [e0]; exact Ar5.1) (State.isArrayOf_alike hZ.alike Ar5.2.1) Ar5.2.2 hin5 hat5 (g := (mkF m 15 #[.val (.ref oc), .val (.ref oe)] [(.int (1 : Int32)), (.ref oe), (.double x1)])) rfl rfl (hb hby d2_15) _ ?_
    show Steps p.tables e below (s₁.setTop (mkF m 16 #[.val (.ref oc), .val (.ref oe)] [(.double x1), (.double x1)])) _
    refine XS.dcmpS X0.here hx rfl (hb hby d2_16) rfl (dcmpV_self nx1 .l) ?_
    refine XS.ifNo X0.here hx rfl (hb hby d2_17) rfl (own_if (own_teq (a := (0 : Int32)) (b := (0 : Int32)) (by decide) (by decide) hc17_6).2) ?_
    refine XS.aloadN X0.here hx rfl (hb hby d2_20) rfl rfl ?_
    refine XS.iconst X0.here hx rfl (hb hby d2_21) ?_
    refine X0.daload hx (j := (2 : Int32)) (v := (.double x2)) (by rw [e0]; exact Ar7.1) (State.isArrayOf_alike hZ.alike Ar7.2.1) Ar7.2.2 hin7 hat7 (g := (mkF m 22 #[.val (.ref oc), .val (.ref oe)] [(.int (2 : Int32)), (.ref oc)])) rfl rfl (hb hby d2_22) _ ?_
    show Steps p.tables e below (s₁.setTop (mkF m 23 #[.val (.ref oc), .val (.ref oe)] [(.double x2)])) _
    refine XS.aloadN X0.here hx rfl (hb hby d2_23) rfl rfl ?_
    refine XS.iconst X0.here hx rfl (hb hby d2_24) ?_
    refine X0.daload hx (j := (2 : Int32)) (v := (.double x2)) (by rw [e0]; exact Ar8.1) (State.isArrayOf_alike hZ.alike Ar8.2.1) Ar8.2.2 hin8 hat8 (g := (mkF m 25 #[.val (.ref oc), .val (.ref oe)] [(.int (2 : Int32)), (.ref oe), (.double x2)])) rfl rfl (hb hby d2_25) _ ?_
    refine XS.dcmpS X0.here hx rfl (hb hby d2_26) rfl (dcmpV_self nx2 .l) ?_
    refine XS.ifNo X0.here hx rfl (hb hby d2_27) rfl (own_if (own_teq (a := (0 : Int32)) (b := (0 : Int32)) (by decide) (by decide) hc27_9).2) ?_
    show Steps p.tables e below (s₁.setTop (mkF m 30 #[.val (.ref oc), .val (.ref oe)] [])) _
    refine XS.aloadN X0.here hx rfl (hb hby d2_30) rfl rfl ?_
    refine XS.iconst X0.here hx rfl (hb hby d2_31) ?_
    refine X0.daload hx (j := (3 : Int32)) (v := (.double x3)) (by rw [e0]; exact Ar10.1) (State.isArrayOf_alike hZ.alike Ar10.2.1) Ar10.2.2 hin10 hat10 (g := (mkF m 32 #[.val (.ref oc), .val (.ref oe)] [(.int (3 : Int32)), (.ref oc)])) rfl rfl (hb hby d2_32) _ ?_
    refine XS.aloadN X0.here hx rfl (hb hby d2_33) rfl rfl ?_
    refine XS.iconst X0.here hx rfl (hb hby d2_34) ?_
    show Steps p.tables e below (s₁.setTop (mkF m 35 #[.val (.ref oc), .val (.ref oe)] [(.int (3 : Int32)), (.ref oe), (.double x3)])) _
    refine X0.daload hx (j := (3 : Int32)) (v := (.double x3)) (by rw [e0]; exact Ar11.1) (State.isArrayOf_alike hZ.alike Ar11.2.1) Ar11.2.2 hin11 hat11 (g := (mkF m 35 #[.val (.ref oc), .val (.ref oe)] [(.int (3 : Int32)), (.ref oe), (.double x3)])) rfl rfl (hb hby d2_35) _ ?_
    refine XS.dcmpS X0.here hx rfl (hb hby d2_36) rfl (dcmpV_self nx3 .l) ?_
    refine XS.ifNo X0.here hx rfl (hb hby d2_37) rfl (own_if (own_teq (a := (0 : Int32)) (b := (0 : Int32)) (by decide) (by decide) hc37_12).2) ?_
    refine XS.aloadN X0.here hx rfl (hb hby d2_40) rfl rfl ?_
    refine XS.iconst X0.here hx rfl (hb hby d2_41) ?_
    show Steps p.tables e below (s₁.setTop (mkF m 42 #[.val (.ref oc), .val (.ref oe)] [(.int (4 : Int32)), (.ref oc)])) _
    refine X0.daload hx (j := (4 : Int32)) (v := (.double x4)) (by rw [e0]; exact Ar13.1) (State.isArrayOf_alike hZ.alike Ar13.2.1) Ar13.2.2 hin13 hat13 (g := (mkF m 42 #[.val (.ref oc), .val (.ref oe)] [(.int (4 : Int32)), (.ref oc)])) rfl rfl (hb hby d2_42) _ ?_
    refine XS.aloadN X0.here hx rfl (hb hby d2_43) rfl rfl ?_
    refine XS.iconst X0.here hx rfl (hb hby d2_44) ?_
    refine X0.daload hx (j := (4 : Int32)) (v := (.double x4)) (by rw [e0]; exact Ar14.1) (State.isArrayOf_alike hZ.alike Ar14.2.1) Ar14.2.2 hin14 hat14 (g := (mkF m 45 #[.val (.ref oc), .val (.ref oe)] [(.int (4 : Int32)), (.ref oe), (.double x4)])) rfl rfl (hb hby d2_45) _ ?_
    refine XS.dcmpS X0.here hx rfl (hb hby d2_46) rfl (dcmpV_self nx4 .l) ?_
    show Steps p.tables e below (s₁.setTop (mkF m 47 #[.val (.ref oc), .val (.ref oe)] [(.int (0 : Int32))])) _
    refine XS.ifNo X0.here hx rfl (hb hby d2_47) rfl (own_if (own_teq (a := (0 : Int32)) (b := (0 : Int32)) (by decide) (by decide) hc47_15).2) ?_
    refine XS.aloadN X0.here hx rfl (hb hby d2_50) rfl rfl ?_
    refine XS.iconst X0.here hx rfl (hb hby d2_51) ?_
    refine X0.daload hx (j := (5 : Int32)) (v := (.double x5)) (by rw [e0]; exact Ar16.1) (State.isArrayOf_alike hZ.alike Ar16.2.1) Ar16.2.2 hin16 hat16 (g := (mkF m 52 #[.val (.ref oc), .val (.ref oe)] [(.int (5 : Int32)), (.ref oc)])) rfl rfl (hb hby d2_52) _ ?_
    refine XS.aloadN X0.here hx rfl (hb hby d2_53) rfl rfl ?_
    show Steps p.tables e below (s₁.setTop (mkF m 54 #[.val (.ref oc), .val (.ref oe)] [(.ref oe), (.double x5)])) _
    refine XS.iconst X0.here hx rfl (hb hby d2_54) ?_
    refine X0.daload hx (j := (5 : Int32)) (v := (.double x5)) (by rw [e0]; exact Ar17.1) (State.isArrayOf_alike hZ.alike Ar17.2.1) Ar17.2.2 hin17 hat17 (g := (mkF m 55 #[.val (.ref oc), .val (.ref oe)] [(.int (5 : Int32)), (.ref oe), (.double x5)])) rfl rfl (hb hby d2_55) _ ?_
    refine XS.dcmpS X0.here hx rfl (hb hby d2_56) rfl (dcmpV_self nx5 .l) ?_
    refine XS.ifNo X0.here hx rfl (hb hby d2_57) rfl (own_if (own_teq (a := (0 : Int32)) (b := (0 : Int32)) (by decide) (by decide) hc57_18).2) ?_
    refine XS.aloadN X0.here hx rfl (hb hby d2_60) rfl rfl ?_
    show Steps p.tables e below (s₁.setTop (mkF m 61 #[.val (.ref oc), .val (.ref oe)] [(.ref oc)])) _
    refine XS.bipush X0.here hx rfl (hb hby d2_61) ?_
    refine X0.daload hx (j := (6 : Int32)) (v := (.double x6)) (by rw [e0]; exact Ar19.1) (State.isArrayOf_alike hZ.alike Ar19.2.1) Ar19.2.2 hin19 hat19 (g := (mkF m 63 #[.val (.ref oc), .val (.ref oe)] [(.int (6 : Int32)), (.ref oc)])) rfl rfl (hb hby d2_63) _ ?_
    refine XS.aloadN X0.here hx rfl (hb hby d2_64) rfl rfl ?_
    refine XS.bipush X0.here hx rfl (hb hby d2_65) ?_
    refine X0.daload hx (j := (6 : Int32)) (v := (.double x6)) (by rw [e0]; exact Ar20.1) (State.isArrayOf_alike hZ.alike Ar20.2.1) Ar20.2.2 hin20 hat20 (g := (mkF m 67 #[.val (.ref oc), .val (.ref oe)] [(.int (6 : Int32)), (.ref oe), (.double x6)])) rfl rfl (hb hby d2_67) _ ?_
    show Steps p.tables e below (s₁.setTop (mkF m 68 #[.val (.ref oc), .val (.ref oe)] [(.double x6), (.double x6)])) _
    refine XS.dcmpS X0.here hx rfl (hb hby d2_68) rfl (dcmpV_self nx6 .l) ?_
    refine XS.ifNo X0.here hx rfl (hb hby d2_69) rfl (own_if (own_teq (a := (0 : Int32)) (b := (0 : Int32)) (by decide) (by decide) hc69_21).2) ?_
    refine XS.aloadN X0.here hx rfl (hb hby d2_72) rfl rfl ?_
    refine XS.bipush X0.here hx rfl (hb hby d2_73) ?_
    refine X0.daload hx (j := (7 : Int32)) (v := (.double x7)) (by rw [e0]; exact Ar22.1) (State.isArrayOf_alike hZ.alike Ar22.2.1) Ar22.2.2 hin22 hat22 (g := (mkF m 75 #[.val (.ref oc), .val (.ref oe)] [(.int (7 : Int32)), (.ref oc)])) rfl rfl (hb hby d2_75) _ ?_
    show Steps p.tables e below (s₁.setTop (mkF m 76 #[.val (.ref oc), .val (.ref oe)] [(.double x7)])) _
    refine XS.aloadN X0.here hx rfl (hb hby d2_76) rfl rfl ?_
    refine XS.bipush X0.here hx rfl (hb hby d2_77) ?_
    refine X0.daload hx (j := (7 : Int32)) (v := (.double x7)) (by rw [e0]; exact Ar23.1) (State.isArrayOf_alike hZ.alike Ar23.2.1) Ar23.2.2 hin23 hat23 (g := (mkF m 79 #[.val (.ref oc), .val (.ref oe)] [(.int (7 : Int32)), (.ref oe), (.double x7)])) rfl rfl (hb hby d2_79) _ ?_
    refine XS.dcmpS X0.here hx rfl (hb hby d2_80) rfl (dcmpV_self nx7 .l) ?_
    refine XS.ifNo X0.here hx rfl (hb hby d2_81) rfl (own_if (own_teq (a := (0 : Int32)) (b := (0 : Int32)) (by decide) (by decide) hc81_24).2) ?_
    show Steps p.tables e below (s₁.setTop (mkF m 84 #[.val (.ref oc), .val (.ref oe)] [])) _
    refine XS.aloadN X0.here hx rfl (hb hby d2_84) rfl rfl ?_
    refine XS.bipush X0.here hx rfl (hb hby d2_85) ?_
    refine X0.daload hx (j := (8 : Int32)) (v := (.double x8)) (by rw [e0]; exact Ar25.1) (State.isArrayOf_alike hZ.alike Ar25.2.1) Ar25.2.2 hin25 hat25 (g := (mkF m 87 #[.val (.ref oc), .val (.ref oe)] [(.int (8 : Int32)), (.ref oc)])) rfl rfl (hb hby d2_87) _ ?_
    refine XS.aloadN X0.here hx rfl (hb hby d2_88) rfl rfl ?_
    refine XS.bipush X0.here hx rfl (hb hby d2_89) ?_
    show Steps p.tables e below (s₁.setTop (mkF m 91 #[.val (.ref oc), .val (.ref oe)] [(.int (8 : Int32)), (.ref oe), (.double x8)])) _
    refine X0.daload hx (j := (8 : Int32)) (v := (.double x8)) (by rw [e0]; exact Ar26.1) (State.isArrayOf_alike hZ.alike Ar26.2.1) Ar26.2.2 hin26 hat26 (g := (mkF m 91 #[.val (.ref oc), .val (.ref oe)] [(.int (8 : Int32)), (.ref oe), (.double x8)])) rfl rfl (hb hby d2_91) _ ?_
    refine XS.dcmpS X0.here hx rfl (hb hby d2_92) rfl (dcmpV_self nx8 .l) ?_
    refine XS.ifNo X0.here hx rfl (hb hby d2_93) rfl (own_if (own_teq (a := (0 : Int32)) (b := (0 : Int32)) (by decide) (by decide) hc93_27).2) ?_
    refine XS.aloadN X0.here hx rfl (hb hby d2_96) rfl rfl ?_
    refine XS.bipush X0.here hx rfl (hb hby d2_97) ?_
    show Steps p.tables e below (s₁.setTop (mkF m 99 #[.val (.ref oc), .val (.ref oe)] [(.int (9 : Int32)), (.ref oc)])) _
    refine X0.daload hx (j := (9 : Int32)) (v := (.double x9)) (by rw [e0]; exact Ar28.1) (State.isArrayOf_alike hZ.alike Ar28.2.1) Ar28.2.2 hin28 hat28 (g := (mkF m 99 #[.val (.ref oc), .val (.ref oe)] [(.int (9 : Int32)), (.ref oc)])) rfl rfl (hb hby d2_99) _ ?_
    refine XS.aloadN X0.here hx rfl (hb hby d2_100) rfl rfl ?_
    refine XS.bipush X0.here hx rfl (hb hby d2_101) ?_
    refine X0.daload hx (j := (9 : Int32)) (v := (.double x9)) (by rw [e0]; exact Ar29.1) (State.isArrayOf_alike hZ.alike Ar29.2.1) Ar29.2.2 hin29 hat29 (g := (mkF m 103 #[.val (.ref oc), .val (.ref oe)] [(.int (9 : Int32)), (.ref oe), (.double x9)])) rfl rfl (hb hby d2_103) _ ?_
    refine XS.dcmpS X0.here hx rfl (hb hby d2_104) rfl (dcmpV_self nx9 .l) ?_
    show Steps p.tables e below (s₁.setTop (mkF m 105 #[.val (.ref oc), .val (.ref oe)] [(.int (0 : Int32))])) _
    refine XS.ifNo X0.here hx rfl (hb hby d2_105) rfl (own_if (own_teq (a := (0 : Int32)) (b := (0 : Int32)) (by decide) (by decide) hc105_30).2) ?_
    refine XS.aloadN X0.here hx rfl (hb hby d2_108) rfl rfl ?_
    refine XS.bipush X0.here hx rfl (hb hby d2_109) ?_
    refine X0.daload hx (j := (10 : Int32)) (v := (.double x10)) (by rw [e0]; exact Ar31.1) (State.isArrayOf_alike hZ.alike Ar31.2.1) Ar31.2.2 hin31 hat31 (g := (mkF m 111 #[.val (.ref oc), .val (.ref oe)] [(.int (10 : Int32)), (.ref oc)])) rfl rfl (hb hby d2_111) _ ?_
    refine XS.aloadN X0.here hx rfl (hb hby d2_112) rfl rfl ?_
    show Steps p.tables e below (s₁.setTop (mkF m 113 #[.val (.ref oc), .val (.ref oe)] [(.ref oe), (.double x10)])) _
    refine XS.bipush X0.here hx rfl (hb hby d2_113) ?_
    refine X0.daload hx (j := (10 : Int32)) (v := (.double x10)) (by rw [e0]; exact Ar32.1) (State.isArrayOf_alike hZ.alike Ar32.2.1) Ar32.2.2 hin32 hat32 (g := (mkF m 115 #[.val (.ref oc), .val (.ref oe)] [(.int (10 : Int32)), (.ref oe), (.double x10)])) rfl rfl (hb hby d2_115) _ ?_
    refine XS.dcmpS X0.here hx rfl (hb hby d2_116) rfl (dcmpV_self nx10 .l) ?_
    refine XS.ifNo X0.here hx rfl (hb hby d2_117) rfl (own_if (own_teq (a := (0 : Int32)) (b := (0 : Int32)) (by decide) (by decide) hc117_33).2) ?_
    refine XS.aloadN X0.here hx rfl (hb hby d2_120) rfl rfl ?_
    show Steps p.tables e below (s₁.setTop (mkF m 121 #[.val (.ref oc), .val (.ref oe)] [(.ref oc)])) _
    refine XS.bipush X0.here hx rfl (hb hby d2_121) ?_
    refine X0.daload hx (j := (11 : Int32)) (v := (.double x11)) (by rw [e0]; exact Ar34.1) (State.isArrayOf_alike hZ.alike Ar34.2.1) Ar34.2.2 hin34 hat34 (g := (mkF m 123 #[.val (.ref oc), .val (.ref oe)] [(.int (11 : Int32)), (.ref oc)])) rfl rfl (hb hby d2_123) _ ?_
    refine XS.aloadN X0.here hx rfl (hb hby d2_124) rfl rfl ?_
    refine XS.bipush X0.here hx rfl (hb hby d2_125) ?_
    refine X0.daload hx (j := (11 : Int32)) (v := (.double x11)) (by rw [e0]; exact Ar35.1) (State.isArrayOf_alike hZ.alike Ar35.2.1) Ar35.2.2 hin35 hat35 (g := (mkF m 127 #[.val (.ref oc), .val (.ref oe)] [(.int (11 : Int32)), (.ref oe), (.double x11)])) rfl rfl (hb hby d2_127) _ ?_
    show Steps p.tables e below (s₁.setTop (mkF m 128 #[.val (.ref oc), .val (.ref oe)] [(.double x11), (.double x11)])) _
    refine XS.dcmpS X0.here hx rfl (hb hby d2_128) rfl (dcmpV_self nx11 .l) ?_
    refine XS.ifNo X0.here hx rfl (hb hby d2_129) rfl (own_if (own_teq (a := (0 : Int32)) (b := (0 : Int32)) (by decide) (by decide) hc129_36).2) ?_
    refine XS.aloadN X0.here hx rfl (hb hby d2_132) rfl rfl ?_
    refine XS.bipush X0.here hx rfl (hb hby d2_133) ?_
    refine X0.daload hx (j := (12 : Int32)) (v := (.double x12)) (by rw [e0]; exact Ar37.1) (State.isArrayOf_alike hZ.alike Ar37.2.1) Ar37.2.2 hin37 hat37 (g := (mkF m 135 #[.val (.ref oc), .val (.ref oe)] [(.int (12 : Int32)), (.ref oc)])) rfl rfl (hb hby d2_135) _ ?_
    show Steps p.tables e below (s₁.setTop (mkF m 136 #[.val (.ref oc), .val (.ref oe)] [(.double x12)])) _
    refine XS.aloadN X0.here hx rfl (hb hby d2_136) rfl rfl ?_
    refine XS.bipush X0.here hx rfl (hb hby d2_137) ?_
    refine X0.daload hx (j := (12 : Int32)) (v := (.double x12)) (by rw [e0]; exact Ar38.1) (State.isArrayOf_alike hZ.alike Ar38.2.1) Ar38.2.2 hin38 hat38 (g := (mkF m 139 #[.val (.ref oc), .val (.ref oe)] [(.int (12 : Int32)), (.ref oe), (.double x12)])) rfl rfl (hb hby d2_139) _ ?_
    refine XS.dcmpS X0.here hx rfl (hb hby d2_140) rfl (dcmpV_self nx12 .l) ?_
    refine XS.ifNo X0.here hx rfl (hb hby d2_141) rfl (own_if (own_teq (a := (0 : Int32)) (b := (0 : Int32)) (by decide) (by decide) hc141_39).2) ?_
    show Steps p.tables e below (s₁.setTop (mkF m 144 #[.val (.ref oc), .val (.ref oe)] [])) _
    refine XS.aloadN X0.here hx rfl (hb hby d2_144) rfl rfl ?_
    refine XS.bipush X0.here hx rfl (hb hby d2_145) ?_
    refine X0.daload hx (j := (13 : Int32)) (v := (.double x13)) (by rw [e0]; exact Ar40.1) (State.isArrayOf_alike hZ.alike Ar40.2.1) Ar40.2.2 hin40 hat40 (g := (mkF m 147 #[.val (.ref oc), .val (.ref oe)] [(.int (13 : Int32)), (.ref oc)])) rfl rfl (hb hby d2_147) _ ?_
    refine XS.aloadN X0.here hx rfl (hb hby d2_148) rfl rfl ?_
    refine XS.bipush X0.here hx rfl (hb hby d2_149) ?_
    show Steps p.tables e below (s₁.setTop (mkF m 151 #[.val (.ref oc), .val (.ref oe)] [(.int (13 : Int32)), (.ref oe), (.double x13)])) _
    refine X0.daload hx (j := (13 : Int32)) (v := (.double x13)) (by rw [e0]; exact Ar41.1) (State.isArrayOf_alike hZ.alike Ar41.2.1) Ar41.2.2 hin41 hat41 (g := (mkF m 151 #[.val (.ref oc), .val (.ref oe)] [(.int (13 : Int32)), (.ref oe), (.double x13)])) rfl rfl (hb hby d2_151) _ ?_
    refine XS.dcmpS X0.here hx rfl (hb hby d2_152) rfl (dcmpV_self nx13 .l) ?_
    refine XS.ifNo X0.here hx rfl (hb hby d2_153) rfl (own_if (own_teq (a := (0 : Int32)) (b := (0 : Int32)) (by decide) (by decide) hc153_42).2) ?_
    refine XS.aloadN X0.here hx rfl (hb hby d2_156) rfl rfl ?_
    refine XS.bipush X0.here hx rfl (hb hby d2_157) ?_
    show Steps p.tables e below (s₁.setTop (mkF m 159 #[.val (.ref oc), .val (.ref oe)] [(.int (14 : Int32)), (.ref oc)])) _
    refine X0.daload hx (j := (14 : Int32)) (v := (.double x14)) (by rw [e0]; exact Ar43.1) (State.isArrayOf_alike hZ.alike Ar43.2.1) Ar43.2.2 hin43 hat43 (g := (mkF m 159 #[.val (.ref oc), .val (.ref oe)] [(.int (14 : Int32)), (.ref oc)])) rfl rfl (hb hby d2_159) _ ?_
    refine XS.aloadN X0.here hx rfl (hb hby d2_160) rfl rfl ?_
    refine XS.bipush X0.here hx rfl (hb hby d2_161) ?_
    refine X0.daload hx (j := (14 : Int32)) (v := (.double x14)) (by rw [e0]; exact Ar44.1) (State.isArrayOf_alike hZ.alike Ar44.2.1) Ar44.2.2 hin44 hat44 (g := (mkF m 163 #[.val (.ref oc), .val (.ref oe)] [(.int (14 : Int32)), (.ref oe), (.double x14)])) rfl rfl (hb hby d2_163) _ ?_
    refine XS.dcmpS X0.here hx rfl (hb hby d2_164) rfl (dcmpV_self nx14 .l) ?_
    show Steps p.tables e below (s₁.setTop (mkF m 165 #[.val (.ref oc), .val (.ref oe)] [(.int (0 : Int32))])) _
    refine XS.ifNo X0.here hx rfl (hb hby d2_165) rfl (own_if (own_teq (a := (0 : Int32)) (b := (0 : Int32)) (by decide) (by decide) hc165_45).2) ?_
    refine XS.aloadN X0.here hx rfl (hb hby d2_168) rfl rfl ?_
    refine XS.bipush X0.here hx rfl (hb hby d2_169) ?_
    refine X0.daload hx (j := (15 : Int32)) (v := (.double x15)) (by rw [e0]; exact Ar46.1) (State.isArrayOf_alike hZ.alike Ar46.2.1) Ar46.2.2 hin46 hat46 (g := (mkF m 171 #[.val (.ref oc), .val (.ref oe)] [(.int (15 : Int32)), (.ref oc)])) rfl rfl (hb hby d2_171) _ ?_
    refine XS.aloadN X0.here hx rfl (hb hby d2_172) rfl rfl ?_
    show Steps p.tables e below (s₁.setTop (mkF m 173 #[.val (.ref oc), .val (.ref oe)] [(.ref oe), (.double x15)])) _
    refine XS.bipush X0.here hx rfl (hb hby d2_173) ?_
    refine X0.daload hx (j := (15 : Int32)) (v := (.double x15)) (by rw [e0]; exact Ar47.1) (State.isArrayOf_alike hZ.alike Ar47.2.1) Ar47.2.2 hin47 hat47 (g := (mkF m 175 #[.val (.ref oc), .val (.ref oe)] [(.int (15 : Int32)), (.ref oe), (.double x15)])) rfl rfl (hb hby d2_175) _ ?_
    refine XS.dcmpS X0.here hx rfl (hb hby d2_176) rfl (dcmpV_self nx15 .l) ?_
    refine XS.ifNo X0.here hx rfl (hb hby d2_177) rfl (own_if (own_teq (a := (0 : Int32)) (b := (0 : Int32)) (by decide) (by decide) hc177_48).2) ?_
    refine XS.iconst X0.here hx rfl (hb hby d2_180) ?_
    show Steps p.tables e below (s₁.setTop (mkF m 181 #[.val (.ref oc), .val (.ref oe)] [(.int (1 : Int32))])) _
    refine XS.goto X0.here hx rfl (pc0 := 181) (pc' := 185) rfl (hb hby d2_181) (by decide) (by decide) ?_
    exact retN X0 hx (t := .boolean) Bd.returns (by simp) (hb hby d2_185) hr
  · show Q2 Z oc oe kc ke vs h0 n0 _ s₁.heap _
    rw [e0]
    exact ⟨_, rfl, rfl, N0, rfl⟩
theorem d1_0 : decode prog_42_method_9_code 0 = .ok (.iload_n 2, 1) := by decide +kernel
theorem d1_1 : decode prog_42_method_9_code 1 = .ok (.getstatic 158, 3) := by decide +kernel
theorem d1_4 : decode prog_42_method_9_code 4 = .ok (.if_icmp .ne 5, 3) := by decide +kernel
theorem d1_7 : decode prog_42_method_9_code 7 = .ok (.dconst 0, 1) := by decide +kernel
theorem d1_8 : decode prog_42_method_9_code 8 = .ok (.dreturn, 1) := by decide +kernel
theorem pn_1 : plainName "com/example/mod7/mod7/regressors/DayCounts" = true := by first | (simp [plainName, overriddenIn]; done) | decide +kernel
theorem ef_rm_mv6 (m : MethodId) (x0 : Addr) (x1 : Int32) (x2 : Int32) (x3 : UInt64) : entryFrame m #[(.ref x0), (.int x1), (.int x2), (.double x3)] 5 = mkF m 0 #[.val (.ref x0), .val (.int x1), .val (.int x2), .val (.double x3), .second] [] := by first | (simp [entryFrame, mkF, argsToLocals, Value.category]; done) | rfl
def Q_mv6 (Z : State) (oc : Addr) (vpl : Int32) (vdw : Int32) (dp : UInt64) (kc : ClassId) (vs : List Value) (pn : Nat) (dn : Nat) (h0 : Heap) (n0 : Nat) (v : Option Value) (h : Heap) (L : List Loc) : Prop := ∃ z : UInt64, v = some (.double z) ∧ (z = (0 : UInt64)) ∧ Fr n0 L ∧ h = h0
set_option maxRecDepth 65536 in
set_option maxHeartbeats 40000000 in
theorem rm_mv6 (l : Launch) (Z : State) (a0 : Array Value) (hw : ∀ d ∈ tables_1, d.before a0 Z = true) (ws : List Jvm.Cond) (oc : Addr) (vpl : Int32) (vdw : Int32) (dp : UInt64) (kc : ClassId) (vs : List Value) (pn : Nat) (dn : Nat) (h0 : Heap) (n0 : Nat) (Z0 : n0 ≤ h0.size) (Vc : Arv Z h0 oc kc .double (16 : Int32) vs (.double (0 : UInt64))) (hvl : vs.length = 16) (hpn : vpl.toInt = pn) (hdn : vdw.toInt = dn) (hp7 : pn ≤ 7) (hd8 : dn ≤ 8) (Sd : Sta Z h0 "com/example/mod7/mod7/regressors/DayCounts" "SUNDAY" "I" (.int (6 : Int32))) (h6 : dn = 6) :
    MetFree l (⟨"com/example/mod7/mod7/regressors/DayCounts", "move", "([DIID)D"⟩ : MethodName) (head1 (Jvm.Cond.code (⟨"com/example/mod7/mod7/regressors/DayCounts", "move", "([DIID)D"⟩ : MethodName) prog_42_method_9_code 5 (some .double) :: ws) ({ frames := 0, cells := 0, slots := 0, locals := 0 } : Room)) (fun a U => a = #[(.ref oc), (.int vpl), (.int vdw), (.double dp)] ∧ Z.Warmed39 U.vm ∧ U.heap = h0) (fun _ _ _ _ _ => True) (fun _ U o U' => ∃ v L, o = .returned v ∧ Q_mv6 Z oc vpl vdw dp kc vs pn dn h0 n0 v U'.heap L ∧ FrameEnd U o U' L ({ frames := 0, cells := 0, slots := 0, locals := 0 } : Room).cells ({ frames := 0, cells := 0, slots := 0, locals := 0 } : Room).slots) := by
  refine MetFree.of_bodySF (plainFor_of_name pn_1) hisR ?_
  intro p e s m args below meth c s₁ Bd hml0 hP hK
  obtain ⟨rfl, hZ, hh⟩ := hP
  have hx := Bd.exec
  have hby := Bd.bytes
  have hml : c.maxLocals = 5 := hml0
  have hown : s.vm.findClass "com/example/mod7/mod7/regressors/DayCounts" = some m.cls := findClass_of_methodNamed Bd.named
  have hnm := (name_of_methodNamed Bd.named Bd.method).1
  have X0 : Stand p l e ({ frames := 0, cells := 0, slots := 0, locals := 0 } : Room) s m #[(.ref oc), (.int vpl), (.int vdw), (.double dp)] below meth c s₁ [] 0 0 := Stand.of_body Bd
  have e0 : s₁.heap = h0 := by rw [← hh, Bd.state]; rfl
  have N0 := Fr.nil n0
  have pre0 : ∀ t, Steps p.tables e below (s₁.setTop (mkF m 0 #[.val (.ref oc), .val (.int vpl), .val (.int vdw), .val (.double dp), .second] [])) t → Steps p.tables e below (s₁.setTop (entryFrame m #[(.ref oc), (.int vpl), (.int vdw), (.double dp)] 5)) t := fun t k => castTop (ef_rm_mv6 m oc vpl vdw dp) k
  obtain ⟨T1, X1, e1, st1⟩ := getS2 X0 hx hZ hown (host := "") (Or.inl (hw _ (List.mem_of_getElem? (i := 25) rfl))) Via.refl e0 Sd (g := (mkF m 1 #[.val (.ref oc), .val (.int vpl), .val (.int vdw), .val (.double dp), .second] [(.int vdw)])) rfl (hb hby d1_1)
  have hc4_2 : vdw.toInt = (6 : Int) := by omega
  obtain ⟨fs, hr, hrun, hended, hW, hsame⟩ := X1.leave (v := some (.double (0 : UInt64))) (fun h => by rw [Bd.returns] at h; cases h)
  refine ⟨_, _, pre0 _ ?_, hrun, hended, _, _, rfl, ?_, ⟨_, rfl⟩, hW, hsame.mono (by decide) (by decide)⟩
  · refine XS.iloadN X0.here hx rfl (hb hby d1_0) rfl ?_
    refine st1 _ ?_
    refine XS.icmpNo X1.here hx rfl (hb hby d1_4) rfl (own_teq (a := vdw) (b := (6 : Int32)) rfl (by decide) hc4_2).2 ?_
    refine XS.dconst0 X1.here hx rfl (hb hby d1_7) (v := (0 : UInt64)) (by decide) ?_
    show Steps p.tables e below (T1.setTop (mkF m 8 #[.val (.ref oc), .val (.int vpl), .val (.int vdw), .val (.double dp), .second] [(.double (0 : UInt64))])) _
    jvm_step X1.here [X1.here.top, hx, (hb hby d1_8), X1.method', Bd.returns, narrow]
    first | (intro acts; rw [hr _ acts rfl rfl rfl]) | rw [hr _ _ rfl rfl rfl]
    exact Steps.refl _
  · show Q_mv6 Z oc vpl vdw dp kc vs pn dn h0 n0 _ T1.heap _
    rw [e1]
    exact ⟨_, rfl, rfl, N0, rfl⟩
theorem d1_9 : decode prog_42_method_9_code 9 = .ok (.aload_n 0, 1) := by decide +kernel
theorem d1_10 : decode prog_42_method_9_code 10 = .ok (.iload_n 1, 1) := by decide +kernel
theorem d1_11 : decode prog_42_method_9_code 11 = .ok (.iload_n 2, 1) := by decide +kernel
theorem d1_12 : decode prog_42_method_9_code 12 = .ok (.iadd, 1) := by decide +kernel
theorem d1_13 : decode prog_42_method_9_code 13 = .ok (.dup2, 1) := by decide +kernel
theorem d1_14 : decode prog_42_method_9_code 14 = .ok (.daload, 1) := by decide +kernel
theorem d1_15 : decode prog_42_method_9_code 15 = .ok (.dload_n 3, 1) := by decide +kernel
theorem d1_16 : decode prog_42_method_9_code 16 = .ok (.dsub, 1) := by decide +kernel
theorem d1_17 : decode prog_42_method_9_code 17 = .ok (.dastore, 1) := by decide +kernel
theorem d1_18 : decode prog_42_method_9_code 18 = .ok (.aload_n 0, 1) := by decide +kernel
theorem d1_19 : decode prog_42_method_9_code 19 = .ok (.iload_n 1, 1) := by decide +kernel
theorem d1_20 : decode prog_42_method_9_code 20 = .ok (.getstatic 158, 3) := by decide +kernel
theorem d1_23 : decode prog_42_method_9_code 23 = .ok (.iadd, 1) := by decide +kernel
theorem d1_24 : decode prog_42_method_9_code 24 = .ok (.dup2, 1) := by decide +kernel
theorem d1_25 : decode prog_42_method_9_code 25 = .ok (.daload, 1) := by decide +kernel
theorem d1_26 : decode prog_42_method_9_code 26 = .ok (.dload_n 3, 1) := by decide +kernel
theorem d1_27 : decode prog_42_method_9_code 27 = .ok (.dadd, 1) := by decide +kernel
theorem d1_28 : decode prog_42_method_9_code 28 = .ok (.dastore, 1) := by decide +kernel
theorem d1_29 : decode prog_42_method_9_code 29 = .ok (.dload_n 3, 1) := by decide +kernel
theorem d1_30 : decode prog_42_method_9_code 30 = .ok (.dreturn, 1) := by decide +kernel
theorem ef_rm_mv (m : MethodId) (x0 : Addr) (x1 : Int32) (x2 : Int32) (x3 : UInt64) : entryFrame m #[(.ref x0), (.int x1), (.int x2), (.double x3)] 5 = mkF m 0 #[.val (.ref x0), .val (.int x1), .val (.int x2), .val (.double x3), .second] [] := by first | (simp [entryFrame, mkF, argsToLocals, Value.category]; done) | rfl
def Q_mv (Z : State) (oc : Addr) (vpl : Int32) (vdw : Int32) (dp : UInt64) (kc : ClassId) (vs : List Value) (pn : Nat) (dn : Nat) (xa : UInt64) (xb : UInt64) (h0 : Heap) (n0 : Nat) (v : Option Value) (h : Heap) (L : List Loc) : Prop := v = some (.double dp) ∧ Fr n0 L ∧ Keep h0 h [oc] ∧ Arv Z h oc kc .double (16 : Int32) ((vs.set (pn + dn) (.double (FP.dsub xa dp))).set (pn + 6) (.double (FP.dadd xb dp))) (.double (0 : UInt64))
set_option maxRecDepth 65536 in
set_option maxHeartbeats 40000000 in
theorem rm_mv (l : Launch) (Z : State) (a0 : Array Value) (hw : ∀ d ∈ tables_1, d.before a0 Z = true) (ws : List Jvm.Cond) (oc : Addr) (vpl : Int32) (vdw : Int32) (dp : UInt64) (kc : ClassId) (vs : List Value) (pn : Nat) (dn : Nat) (xa : UInt64) (xb : UInt64) (h0 : Heap) (n0 : Nat) (Z0 : n0 ≤ h0.size) (Vc : Arv Z h0 oc kc .double (16 : Int32) vs (.double (0 : UInt64))) (hvl : vs.length = 16) (hpn : vpl.toInt = pn) (hdn : vdw.toInt = dn) (hp7 : pn ≤ 7) (hd8 : dn ≤ 8) (Sd : Sta Z h0 "com/example/mod7/mod7/regressors/DayCounts" "SUNDAY" "I" (.int (6 : Int32))) (h6 : ¬ dn = 6) (ga : vs.getD (pn + dn) (.double (0 : UInt64)) = .double xa) (gb : vs.getD (pn + 6) (.double (0 : UInt64)) = .double xb) (n1 : NoNaN64 (FP.dsub xa dp)) (n2 : NoNaN64 (FP.dadd xb dp)) (gc : n0 ≤ oc) :
    MetFree l (⟨"com/example/mod7/mod7/regressors/DayCounts", "move", "([DIID)D"⟩ : MethodName) (head1 (Jvm.Cond.code (⟨"com/example/mod7/mod7/regressors/DayCounts", "move", "([DIID)D"⟩ : MethodName) prog_42_method_9_code 5 (some .double) :: ws) ({ frames := 0, cells := 0, slots := 0, locals := 0 } : Room)) (fun a U => a = #[(.ref oc), (.int vpl), (.int vdw), (.double dp)] ∧ Z.Warmed39 U.vm ∧ U.heap = h0) (fun _ _ _ _ _ => True) (fun _ U o U' => ∃ v L, o = .returned v ∧ Q_mv Z oc vpl vdw dp kc vs pn dn xa xb h0 n0 v U'.heap L ∧ FrameEnd U o U' L ({ frames := 0, cells := 0, slots := 0, locals := 0 } : Room).cells ({ frames := 0, cells := 0, slots := 0, locals := 0 } : Room).slots) := by
  refine MetFree.of_bodySF (plainFor_of_name pn_1) hisR ?_
  intro p e s m args below meth c s₁ Bd hml0 hP hK
  obtain ⟨rfl, hZ, hh⟩ := hP
  have hx := Bd.exec
  have hby := Bd.bytes
  have hml : c.maxLocals = 5 := hml0
  have hown : s.vm.findClass "com/example/mod7/mod7/regressors/DayCounts" = some m.cls := findClass_of_methodNamed Bd.named
  have hnm := (name_of_methodNamed Bd.named Bd.method).1
  have X0 : Stand p l e ({ frames := 0, cells := 0, slots := 0, locals := 0 } : Room) s m #[(.ref oc), (.int vpl), (.int vdw), (.double dp)] below meth c s₁ [] 0 0 := Stand.of_body Bd
  have e0 : s₁.heap = h0 := by rw [← hh, Bd.state]; rfl
  have N0 := Fr.nil n0
  have pre0 : ∀ t, Steps p.tables e below (s₁.setTop (mkF m 0 #[.val (.ref oc), .val (.int vpl), .val (.int vdw), .val (.double dp), .second] [])) t → Steps p.tables e below (s₁.setTop (entryFrame m #[(.ref oc), (.int vpl), (.int vdw), (.double dp)] 5)) t := fun t k => castTop (ef_rm_mv m oc vpl vdw dp) k
  obtain ⟨T1, X1, e1, st1⟩ := getS2 X0 hx hZ hown (host := "") (Or.inl (hw _ (List.mem_of_getElem? (i := 25) rfl))) Via.refl e0 Sd (g := (mkF m 1 #[.val (.ref oc), .val (.int vpl), .val (.int vdw), .val (.double dp), .second] [(.int vdw)])) rfl (hb hby d1_1)
  have hc4_2 : ¬ (vdw.toInt = (6 : Int)) := by omega
  obtain ⟨cl3, Ar3, q3, S3, M3, H3, G3⟩ := id Vc
  have hin3 : ¬ ((vpl + vdw) < 0 ∨ cl3.slots.size ≤ ((vpl + vdw)).toNatClampNeg) := inb_of S3 ⟨by rw [Int32.lt_iff_toInt_lt]; have k0 : (0 : Int32).toInt = 0 := (by decide); have := rng32 vpl; have := rng32 vdw; (first | (have : ((vpl + vdw)).toInt = vpl.toInt + vdw.toInt := (by have : (((vpl + vdw)).toInt - (vpl.toInt + vdw.toInt)) % 4294967296 = 0 := c_iadd vpl vdw; have := rng32 (vpl + vdw); omega)) | (have : (((vpl + vdw)).toInt - (vpl.toInt + vdw.toInt)) % 4294967296 = 0 := c_iadd vpl vdw; have := rng32 (vpl + vdw))); omega, by rw [Int32.lt_iff_toInt_lt]; have k0 : (16 : Int32).toInt = 16 := (by decide); have := rng32 vpl; have := rng32 vdw; (first | (have : ((vpl + vdw)).toInt = vpl.toInt + vdw.toInt := (by have : (((vpl + vdw)).toInt - (vpl.toInt + vdw.toInt)) % 4294967296 = 0 := c_iadd vpl vdw; have := rng32 (vpl + vdw); omega)) | (have : (((vpl + vdw)).toInt - (vpl.toInt + vdw.toInt)) % 4294967296 = 0 := c_iadd vpl vdw; have := rng32 (vpl + vdw))); omega⟩
  have hat3 : cl3.slots[((vpl + vdw)).toNatClampNeg]? = some (.double xa) := Has.at H3 hin3 (by rw [own_nat (j := (vpl + vdw)) (n := pn + dn) (by push_cast; have := rng32 vpl; have := rng32 vdw; (first | (have : ((vpl + vdw)).toInt = vpl.toInt + vdw.toInt := (by have : (((vpl + vdw)).toInt - (vpl.toInt + vdw.toInt)) % 4294967296 = 0 := c_iadd vpl vdw; have := rng32 (vpl + vdw); omega)) | (have : (((vpl + vdw)).toInt - (vpl.toInt + vdw.toInt)) % 4294967296 = 0 := c_iadd vpl vdw; have := rng32 (vpl + vdw))); omega)]; exact ga)
  obtain ⟨cl4, Ar4, q4, S4, M4, H4, G4⟩ := id Vc
  have hin4 : ¬ ((vpl + vdw) < 0 ∨ cl4.slots.size ≤ ((vpl + vdw)).toNatClampNeg) := inb_of S4 ⟨by rw [Int32.lt_iff_toInt_lt]; have k0 : (0 : Int32).toInt = 0 := (by decide); have := rng32 vpl; have := rng32 vdw; (first | (have : ((vpl + vdw)).toInt = vpl.toInt + vdw.toInt := (by have : (((vpl + vdw)).toInt - (vpl.toInt + vdw.toInt)) % 4294967296 = 0 := c_iadd vpl vdw; have := rng32 (vpl + vdw); omega)) | (have : (((vpl + vdw)).toInt - (vpl.toInt + vdw.toInt)) % 4294967296 = 0 := c_iadd vpl vdw; have := rng32 (vpl + vdw))); omega, by rw [Int32.lt_iff_toInt_lt]; have k0 : (16 : Int32).toInt = 16 := (by decide); have := rng32 vpl; have := rng32 vdw; (first | (have : ((vpl + vdw)).toInt = vpl.toInt + vdw.toInt := (by have : (((vpl + vdw)).toInt - (vpl.toInt + vdw.toInt)) % 4294967296 = 0 := c_iadd vpl vdw; have := rng32 (vpl + vdw); omega)) | (have : (((vpl + vdw)).toInt - (vpl.toInt + vdw.toInt)) % 4294967296 = 0 := c_iadd vpl vdw; have := rng32 (vpl + vdw))); omega⟩
  obtain ⟨T5, h5, X5, e5, W5, st5⟩ := stD X1 hx hZ e1 Ar4 (j := (vpl + vdw)) hin4 (g := (mkF m 17 #[.val (.ref oc), .val (.int vpl), .val (.int vdw), .val (.double dp), .second] [(.double (FP.dsub xa dp)), (.int (vpl + vdw)), (.ref oc)])) rfl rfl (hb hby d1_17)
  have N5 := Fr.snoc X5 N0 gc
  have Zs6 : n0 ≤ h5.size := by rw [W5.size]; exact Z0
  have V5 : Arv Z h5 oc kc .double (16 : Int32) (vs.set (pn + dn) (.double (FP.dsub xa dp))) (.double (0 : UInt64)) := Arv.set Ar4 q4 S4 M4 H4 G4 rfl W5 (pn + dn) (own_nat (by push_cast; have := rng32 vpl; have := rng32 vdw; (first | (have : ((vpl + vdw)).toInt = vpl.toInt + vdw.toInt := (by have : (((vpl + vdw)).toInt - (vpl.toInt + vdw.toInt)) % 4294967296 = 0 := c_iadd vpl vdw; have := rng32 (vpl + vdw); omega)) | (have : (((vpl + vdw)).toInt - (vpl.toInt + vdw.toInt)) % 4294967296 = 0 := c_iadd vpl vdw; have := rng32 (vpl + vdw))); omega)) (by (try simp only [List.length_set]); omega)
  have f7 := (Sd.wr W5)
  obtain ⟨T8, X8, e8, st8⟩ := getS2 X5 hx hZ hown (host := "") (Or.inl (hw _ (List.mem_of_getElem? (i := 25) rfl))) Via.refl e5 f7 (g := (mkF m 20 #[.val (.ref oc), .val (.int vpl), .val (.int vdw), .val (.double dp), .second] [(.int vpl), (.ref oc)])) rfl (hb hby d1_20)
  obtain ⟨cl9, Ar9, q9, S9, M9, H9, G9⟩ := id V5
  have hin9 : ¬ ((vpl + (6 : Int32)) < 0 ∨ cl9.slots.size ≤ ((vpl + (6 : Int32))).toNatClampNeg) := inb_of S9 ⟨by rw [Int32.lt_iff_toInt_lt]; have k0 : (0 : Int32).toInt = 0 := (by decide); have := rng32 vpl; (first | (have : ((vpl + (6 : Int32))).toInt = vpl.toInt + (6 : Int) := (by have : (((vpl + (6 : Int32))).toInt - (vpl.toInt + (6 : Int))) % 4294967296 = 0 := c_iadd vpl (6 : Int32); have := rng32 (vpl + (6 : Int32)); omega)) | (have : (((vpl + (6 : Int32))).toInt - (vpl.toInt + (6 : Int))) % 4294967296 = 0 := c_iadd vpl (6 : Int32); have := rng32 (vpl + (6 : Int32)))); omega, by rw [Int32.lt_iff_toInt_lt]; have k0 : (16 : Int32).toInt = 16 := (by decide); have := rng32 vpl; (first | (have : ((vpl + (6 : Int32))).toInt = vpl.toInt + (6 : Int) := (by have : (((vpl + (6 : Int32))).toInt - (vpl.toInt + (6 : Int))) % 4294967296 = 0 := c_iadd vpl (6 : Int32); have := rng32 (vpl + (6 : Int32)); omega)) | (have : (((vpl + (6 : Int32))).toInt - (vpl.toInt + (6 : Int))) % 4294967296 = 0 := c_iadd vpl (6 : Int32); have := rng32 (vpl + (6 : Int32)))); omega⟩
  have hat9 : cl9.slots[((vpl + (6 : Int32))).toNatClampNeg]? = some (.double xb) := Has.at H9 hin9 (by rw [own_nat (j := (vpl + (6 : Int32))) (n := pn + 6) (by push_cast; have := rng32 vpl; (first | (have : ((vpl + (6 : Int32))).toInt = vpl.toInt + (6 : Int) := (by have : (((vpl + (6 : Int32))).toInt - (vpl.toInt + (6 : Int))) % 4294967296 = 0 := c_iadd vpl (6 : Int32); have := rng32 (vpl + (6 : Int32)); omega)) | (have : (((vpl + (6 : Int32))).toInt - (vpl.toInt + (6 : Int))) % 4294967296 = 0 := c_iadd vpl (6 : Int32); have := rng32 (vpl + (6 : Int32)))); omega), own_set_ne _ _ _ _ _ (by omega)]; exact gb)
  obtain ⟨cl10, Ar10, q10, S10, M10, H10, G10⟩ := id V5
  have hin10 : ¬ ((vpl + (6 : Int32)) < 0 ∨ cl10.slots.size ≤ ((vpl + (6 : Int32))).toNatClampNeg) := inb_of S10 ⟨by rw [Int32.lt_iff_toInt_lt]; have k0 : (0 : Int32).toInt = 0 := (by decide); have := rng32 vpl; (first | (have : ((vpl + (6 : Int32))).toInt = vpl.toInt + (6 : Int) := (by have : (((vpl + (6 : Int32))).toInt - (vpl.toInt + (6 : Int))) % 4294967296 = 0 := c_iadd vpl (6 : Int32); have := rng32 (vpl + (6 : Int32)); omega)) | (have : (((vpl + (6 : Int32))).toInt - (vpl.toInt + (6 : Int))) % 4294967296 = 0 := c_iadd vpl (6 : Int32); have := rng32 (vpl + (6 : Int32)))); omega, by rw [Int32.lt_iff_toInt_lt]; have k0 : (16 : Int32).toInt = 16 := (by decide); have := rng32 vpl; (first | (have : ((vpl + (6 : Int32))).toInt = vpl.toInt + (6 : Int) := (by have : (((vpl + (6 : Int32))).toInt - (vpl.toInt + (6 : Int))) % 4294967296 = 0 := c_iadd vpl (6 : Int32); have := rng32 (vpl + (6 : Int32)); omega)) | (have : (((vpl + (6 : Int32))).toInt - (vpl.toInt + (6 : Int))) % 4294967296 = 0 := c_iadd vpl (6 : Int32); have := rng32 (vpl + (6 : Int32)))); omega⟩
  obtain ⟨T11, h11, X11, e11, W11, st11⟩ := stD X8 hx hZ e8 Ar10 (j := (vpl + (6 : Int32))) hin10 (g := (mkF m 28 #[.val (.ref oc), .val (.int vpl), .val (.int vdw), .val (.double dp), .second] [(.double (FP.dadd xb dp)), (.int (vpl + (6 : Int32))), (.ref oc)])) rfl rfl (hb hby d1_28)
  have N11 := Fr.snoc X11 N5 gc
  have Zs12 : n0 ≤ h11.size := by rw [W11.size]; exact Zs6
  have V11 : Arv Z h11 oc kc .double (16 : Int32) ((vs.set (pn + dn) (.double (FP.dsub xa dp))).set (pn + 6) (.double (FP.dadd xb dp))) (.double (0 : UInt64)) := Arv.set Ar10 q10 S10 M10 H10 G10 rfl W11 (pn + 6) (own_nat (by push_cast; have := rng32 vpl; (first | (have : ((vpl + (6 : Int32))).toInt = vpl.toInt + (6 : Int) := (by have : (((vpl + (6 : Int32))).toInt - (vpl.toInt + (6 : Int))) % 4294967296 = 0 := c_iadd vpl (6 : Int32); have := rng32 (vpl + (6 : Int32)); omega)) | (have : (((vpl + (6 : Int32))).toInt - (vpl.toInt + (6 : Int))) % 4294967296 = 0 := c_iadd vpl (6 : Int32); have := rng32 (vpl + (6 : Int32)))); omega)) (by (try simp only [List.length_set]); omega)
  obtain ⟨fs, hr, hrun, hended, hW, hsame⟩ := X11.leave (v := some (.double dp)) (fun h => by rw [Bd.returns] at h; cases h)
  refine ⟨_, _, pre0 _ ?_, hrun, hended, _, _, rfl, ?_, ⟨_, rfl⟩, hW, hsame.mono (by decide) (by decide)⟩
  · refine XS.iloadN X0.here hx rfl (hb hby d1_0) rfl ?_
    refine st1 _ ?_
    refine XS.icmpYes X1.here hx rfl (pc0 := 4) (pc' := 9) rfl (hb hby d1_4) rfl (own_feq (a := vdw) (b := (6 : Int32)) rfl (by decide) hc4_2).2 (by decide) (by decide) ?_
    refine XS.aloadN X1.here hx rfl (hb hby d1_9) rfl rfl ?_
    show Steps p.tables e below (T1.setTop (mkF m 10 #[.val (.ref oc), .val (.int vpl), .val (.int vdw), .val (.double dp), .second] [(.ref oc)])) _
    refine XS.iloadN X1.here hx rfl (hb hby d1_10) rfl ?_
    refine XS.iloadN X1.here hx rfl (hb hby d1_11) rfl ?_
    refine XS.iadd X1.here hx rfl (hb hby d1_12) rfl ?_
    jvm_step X1.here [X1.here.top, hx, (hb hby d1_13), Value.category]
    refine X1.daload hx (j := (vpl + vdw)) (v := (.double xa)) (by rw [e1]; exact Ar3.1) (State.isArrayOf_alike hZ.alike Ar3.2.1) Ar3.2.2 hin3 hat3 (g := (mkF m 14 #[.val (.ref oc), .val (.int vpl), .val (.int vdw), .val (.double dp), .second] [(.int (vpl + vdw)), (.ref oc), (.int (vpl + vdw)), (.ref oc)])) rfl rfl (hb hby d1_14) _ ?_
    show Steps p.tables e below (T1.setTop (mkF m 15 #[.val (.ref oc), .val (.int vpl), .val (.int vdw), .val (.double dp), .second] [(.double xa), (.int (vpl + vdw)), (.ref oc)])) _
    refine XS.dloadN X1.here hx rfl (hb hby d1_15) rfl ?_
    refine XS.dsubS X1.here hx rfl (hb hby d1_16) rfl n1 rfl ?_
    refine st5 _ ?_
    refine XS.aloadN X5.here hx rfl (hb hby d1_18) rfl rfl ?_
    refine XS.iloadN X5.here hx rfl (hb hby d1_19) rfl ?_
    show Steps p.tables e below (T5.setTop (mkF m 20 #[.val (.ref oc), .val (.int vpl), .val (.int vdw), .val (.double dp), .second] [(.int vpl), (.ref oc)])) _
    refine st8 _ ?_
    refine XS.iadd X8.here hx rfl (hb hby d1_23) rfl ?_
    jvm_step X8.here [X8.here.top, hx, (hb hby d1_24), Value.category]
    refine X8.daload hx (j := (vpl + (6 : Int32))) (v := (.double xb)) (by rw [e8]; exact Ar9.1) (State.isArrayOf_alike hZ.alike Ar9.2.1) Ar9.2.2 hin9 hat9 (g := (mkF m 25 #[.val (.ref oc), .val (.int vpl), .val (.int vdw), .val (.double dp), .second] [(.int (vpl + (6 : Int32))), (.ref oc), (.int (vpl + (6 : Int32))), (.ref oc)])) rfl rfl (hb hby d1_25) _ ?_
    refine XS.dloadN X8.here hx rfl (hb hby d1_26) rfl ?_
    show Steps p.tables e below (T8.setTop (mkF m 27 #[.val (.ref oc), .val (.int vpl), .val (.int vdw), .val (.double dp), .second] [(.double dp), (.double xb), (.int (vpl + (6 : Int32))), (.ref oc)])) _
    refine XS.daddS X8.here hx rfl (hb hby d1_27) rfl n2 rfl ?_
    refine st11 _ ?_
    refine XS.dloadN X11.here hx rfl (hb hby d1_29) rfl ?_
    jvm_step X11.here [X11.here.top, hx, (hb hby d1_30), X11.method', Bd.returns, narrow]
    first | (intro acts; rw [hr _ acts rfl rfl rfl]) | rw [hr _ _ rfl rfl rfl]
    exact Steps.refl _
  · show Q_mv Z oc vpl vdw dp kc vs pn dn xa xb h0 n0 _ T11.heap _
    rw [e11]
    have f13 := (((Keep.refl h0 [oc]).wr W5 (Or.inl (List.mem_of_getElem? (i := 0) rfl))).wr W11 (Or.inl (List.mem_of_getElem? (i := 0) rfl)))
    exact ⟨rfl, N11, f13, V11⟩
theorem ef_rm0 (m : MethodId) (x0 : Int32) (x1 : Int32) (x2 : Int32) (x3 : Int32) (x4 : Int32) : entryFrame m #[(.int x0), (.int x1), (.int x2), (.int x3), (.int x4)] maxLocals = mkF m 0 #[.val (.int x0), .val (.int x1), .val (.int x2), .val (.int x3), .val (.int x4), .unset, .unset, .unset, .unset, .unset, .unset, .unset, .unset, .unset, .unset, .unset, .unset, .unset, .unset] [] := by first | (simp [entryFrame, mkF, argsToLocals, Value.category, maxLocals]; done) | rfl
theorem pd_0 : parseMethodDescriptor "([DIID)D" = some ⟨[(.array .double), .int, .int, .double], some .double⟩ := by decide +kernel
theorem pd_1 : parseMethodDescriptor "([D[D)Z" = some ⟨[(.array .double), (.array .double)], some .boolean⟩ := by decide +kernel
def Q0 (Z : State) (vp : Int32) (vd : Int32) (vx : Int32) (vy : Int32) (vk : Int32) (h0 : Heap) (n0 : Nat) (v : Option Value) (h : Heap) (L : List Loc) : Prop := v = some (.int 1) ∧ Fr n0 L
set_option maxRecDepth 65536 in
set_option maxHeartbeats 40000000 in
theorem rm0 (l : Launch) (Z : State) (a0 : Array Value) (hw : ∀ d ∈ tables_1, d.before a0 Z = true) (ws : List Jvm.Cond) (vp : Int32) (vd : Int32) (vx : Int32) (vy : Int32) (vk : Int32) (h0 : Heap) (n0 : Nat) (Z0 : n0 ≤ h0.size) (O0 : Old Z n0 h0) (Sd : Sta Z Z.heap "com/example/mod7/mod7/regressors/DayCounts" "SUNDAY" "I" (.int (6 : Int32))) :
    MetFree l x (head1 (Jvm.Cond.code x code maxLocals ret :: ws) room_1) (fun a U => a = #[(.int vp), (.int vd), (.int vx), (.int vy), (.int vk)] ∧ Z.Warmed39 U.vm ∧ U.heap = h0) (fun _ _ _ _ _ => True) (fun _ U o U' => ∃ v L, o = .returned v ∧ Q0 Z vp vd vx vy vk h0 n0 v U'.heap L ∧ FrameEnd U o U' L room_1.cells room_1.slots) := by
  refine MetFree.of_bodySF (plainFor_of_name pn_0) hisR ?_
  intro p e s m args below meth c s₁ Bd hml0 hP hK
  obtain ⟨rfl, hZ, hh⟩ := hP
  have hx := Bd.exec
  have hby := Bd.bytes
  have hml : c.maxLocals = 19 := hml0
  have hown : s.vm.findClass "com/example/mod7/mod7/regressors/DayCountsMovePinLaw" = some m.cls := findClass_of_methodNamed Bd.named
  have hnm := (name_of_methodNamed Bd.named Bd.method).1
  have X0 : Stand p l e room_1 s m #[(.int vp), (.int vd), (.int vx), (.int vy), (.int vk)] below meth c s₁ [] 0 0 := Stand.of_body Bd
  have e0 : s₁.heap = h0 := by rw [← hh, Bd.state]; rfl
  have N0 := Fr.nil n0
  have pre0 : ∀ t, Steps p.tables e below (s₁.setTop (mkF m 0 #[.val (.int vp), .val (.int vd), .val (.int vx), .val (.int vy), .val (.int vk), .unset, .unset, .unset, .unset, .unset, .unset, .unset, .unset, .unset, .unset, .unset, .unset, .unset, .unset] [])) t → Steps p.tables e below (s₁.setTop (entryFrame m #[(.int vp), (.int vd), (.int vx), (.int vy), (.int vk)] maxLocals)) t := fun t k => castTop (ef_rm0 m vp vd vx vy vk) k
  have pre1 : ∀ t, Steps p.tables e below (s₁.setTop (mkF m 4 #[.val (.int vp), .val (.int vd), .val (.int vx), .val (.int vy), .val (.int vk), .unset, .unset, .unset, .unset, .unset, .unset, .unset, .unset, .unset, .unset, .unset, .unset, .unset, .unset] [(.int (vp &&& (7 : Int32)))])) t → Steps p.tables e below (s₁.setTop (entryFrame m #[(.int vp), (.int vd), (.int vx), (.int vy), (.int vk)] maxLocals)) t := fun t kt => by
    refine pre0 _ ?_
    refine XS.iloadN X0.here hx rfl (hb hby at_0) rfl ?_
    refine XS.bipush X0.here hx rfl (hb hby at_1) ?_
    refine XS.iand X0.here hx rfl (hb hby at_3) rfl ?_
    exact kt
  obtain ⟨vpl, hvpl⟩ : ∃ z : Int32, z = (vp &&& (7 : Int32)) := ⟨_, rfl⟩
  have ivpl : vpl.toInt = vp.toInt % 8 := by rw [hvpl]; have := rng32 vp; have : ((vp &&& (7 : Int32))).toInt = vp.toInt % 8 := c_mask vp (7 : Int32) 3 (by decide) (by decide); omega
  have pre2 : ∀ t, Steps p.tables e below (s₁.setTop (mkF m 4 #[.val (.int vp), .val (.int vd), .val (.int vx), .val (.int vy), .val (.int vk), .unset, .unset, .unset, .unset, .unset, .unset, .unset, .unset, .unset, .unset, .unset, .unset, .unset, .unset] [(.int vpl)])) t → Steps p.tables e below (s₁.setTop (entryFrame m #[(.int vp), (.int vd), (.int vx), (.int vy), (.int vk)] maxLocals)) t := by rw [hvpl]; exact pre1
  obtain ⟨pn, hpn⟩ : ∃ n : Nat, vpl.toInt = n := ⟨vpl.toInt.toNat, by omega⟩
  have pre3 : ∀ t, Steps p.tables e below (s₁.setTop (mkF m 13 #[.val (.int vp), .val (.int vd), .val (.int vx), .val (.int vy), .val (.int vk), .val (.int vpl), .unset, .unset, .unset, .unset, .unset, .unset, .unset, .unset, .unset, .unset, .unset, .unset, .unset] [(.int ((vd &&& (2147483647 : Int32)) % (9 : Int32)))])) t → Steps p.tables e below (s₁.setTop (entryFrame m #[(.int vp), (.int vd), (.int vx), (.int vy), (.int vk)] maxLocals)) t := fun t kt => by
    refine pre2 _ ?_
    refine XS.istore X0.here hx rfl (hb hby at_4) rfl (l' := #[.val (.int vp), .val (.int vd), .val (.int vx), .val (.int vy), .val (.int vk), .val (.int vpl), .unset, .unset, .unset, .unset, .unset, .unset, .unset, .unset, .unset, .unset, .unset, .unset, .unset]) rfl ?_
    show Steps p.tables e below (s₁.setTop (mkF m 6 #[.val (.int vp), .val (.int vd), .val (.int vx), .val (.int vy), .val (.int vk), .val (.int vpl), .unset, .unset, .unset, .unset, .unset, .unset, .unset, .unset, .unset, .unset, .unset, .unset, .unset] [])) _
    refine XS.iloadN X0.here hx rfl (hb hby at_6) rfl ?_
    refine X0.ldcInt hx hown (mvT hZ (hw _ (List.mem_of_getElem? (i := 0) rfl))) (g := (mkF m 7 #[.val (.int vp), .val (.int vd), .val (.int vx), .val (.int vy), .val (.int vk), .val (.int vpl), .unset, .unset, .unset, .unset, .unset, .unset, .unset, .unset, .unset, .unset, .unset, .unset, .unset] [(.int vd)])) rfl (hb hby at_7) _ ?_
    refine XS.iand X0.here hx rfl (hb hby at_9) rfl ?_
    refine XS.bipush X0.here hx rfl (hb hby at_10) ?_
    refine iremM X0 hx rfl (hb hby at_12) rfl (by decide) ?_
    exact kt
  obtain ⟨vdw, hvdw⟩ : ∃ z : Int32, z = ((vd &&& (2147483647 : Int32)) % (9 : Int32)) := ⟨_, rfl⟩
  have ivdw : vdw.toInt = vd.toInt % 2147483648 % 9 := by rw [hvdw]; have := rng32 vd; have : ((vd &&& (2147483647 : Int32))).toInt = vd.toInt % 2147483648 := c_mask vd (2147483647 : Int32) 31 (by decide) (by decide); have := c_irem (vd &&& (2147483647 : Int32)) (9 : Int32) 9 (by decide); omega
  have pre4 : ∀ t, Steps p.tables e below (s₁.setTop (mkF m 13 #[.val (.int vp), .val (.int vd), .val (.int vx), .val (.int vy), .val (.int vk), .val (.int vpl), .unset, .unset, .unset, .unset, .unset, .unset, .unset, .unset, .unset, .unset, .unset, .unset, .unset] [(.int vdw)])) t → Steps p.tables e below (s₁.setTop (entryFrame m #[(.int vp), (.int vd), (.int vx), (.int vy), (.int vk)] maxLocals)) t := by rw [hvdw]; exact pre3
  obtain ⟨dn, hdn⟩ : ∃ n : Nat, vdw.toInt = n := ⟨vdw.toInt.toNat, by omega⟩
  have hp7 : pn ≤ 7 := by omega
  have hd8 : dn ≤ 8 := by omega
  have pre5 : ∀ t, Steps p.tables e below (s₁.setTop (mkF m 28 #[.val (.int vp), .val (.int vd), .val (.int vx), .val (.int vy), .val (.int vk), .val (.int vpl), .val (.int vdw), .unset, .unset, .unset, .unset, .unset, .unset, .unset, .unset, .unset, .unset, .unset, .unset] [(.double (FP.ddiv (FP.i2d ((vk &&& (1023 : Int32)) + (1 : Int32))) (4652218415073722368 : UInt64)))])) t → Steps p.tables e below (s₁.setTop (entryFrame m #[(.int vp), (.int vd), (.int vx), (.int vy), (.int vk)] maxLocals)) t := fun t kt => by
    refine pre4 _ ?_
    show Steps p.tables e below (s₁.setTop (mkF m 13 #[.val (.int vp), .val (.int vd), .val (.int vx), .val (.int vy), .val (.int vk), .val (.int vpl), .unset, .unset, .unset, .unset, .unset, .unset, .unset, .unset, .unset, .unset, .unset, .unset, .unset] [(.int vdw)])) _
    refine XS.istore X0.here hx rfl (hb hby at_13) rfl (l' := #[.val (.int vp), .val (.int vd), .val (.int vx), .val (.int vy), .val (.int vk), .val (.int vpl), .val (.int vdw), .unset, .unset, .unset, .unset, .unset, .unset, .unset, .unset, .unset, .unset, .unset, .unset]) rfl ?_
    refine XS.iload X0.here hx rfl (hb hby at_15) rfl ?_
    refine XS.sipush X0.here hx rfl (hb hby at_17) ?_
    refine XS.iand X0.here hx rfl (hb hby at_20) rfl ?_
    refine XS.iconst X0.here hx rfl (hb hby at_21) ?_
    show Steps p.tables e below (s₁.setTop (mkF m 22 #[.val (.int vp), .val (.int vd), .val (.int vx), .val (.int vy), .val (.int vk), .val (.int vpl), .val (.int vdw), .unset, .unset, .unset, .unset, .unset, .unset, .unset, .unset, .unset, .unset, .unset, .unset] [(.int (1 : Int32)), (.int (vk &&& (1023 : Int32)))])) _
    refine XS.iadd X0.here hx rfl (hb hby at_22) rfl ?_
    refine XS.i2dS X0.here hx rfl (hb hby at_23) rfl rfl ?_
    refine X0.ldc2DoubleC hx hown (mvT hZ (hw _ (List.mem_of_getElem? (i := 1) rfl))) (g := (mkF m 24 #[.val (.int vp), .val (.int vd), .val (.int vx), .val (.int vy), .val (.int vk), .val (.int vpl), .val (.int vdw), .unset, .unset, .unset, .unset, .unset, .unset, .unset, .unset, .unset, .unset, .unset, .unset] [(.double (FP.i2d ((vk &&& (1023 : Int32)) + (1 : Int32))))])) rfl (hb hby at_24) _ ?_
    refine XS.ddivS X0.here hx rfl (hb hby at_27) rfl (own_mag (ddiv_mag (i2d_mag _) own_big1024 (by omega) (by omega)) (by omega)) rfl ?_
    exact kt
  obtain ⟨dpt, hdpt⟩ : ∃ z : UInt64, z = (FP.ddiv (FP.i2d ((vk &&& (1023 : Int32)) + (1 : Int32))) (4652218415073722368 : UInt64)) := ⟨_, rfl⟩
  have pre6 : ∀ t, Steps p.tables e below (s₁.setTop (mkF m 28 #[.val (.int vp), .val (.int vd), .val (.int vx), .val (.int vy), .val (.int vk), .val (.int vpl), .val (.int vdw), .unset, .unset, .unset, .unset, .unset, .unset, .unset, .unset, .unset, .unset, .unset, .unset] [(.double dpt)])) t → Steps p.tables e below (s₁.setTop (entryFrame m #[(.int vp), (.int vd), (.int vx), (.int vy), (.int vk)] maxLocals)) t := by rw [hdpt]; exact pre5
  have mdpt : Mag64 1047 dpt := by rw [hdpt]; exact (ddiv_mag (i2d_mag _) own_big1024 (by omega) (by omega)).mono (by omega)
  have ndpt := own_mag mdpt (by omega)
  have pre7 : ∀ t, Steps p.tables e below (s₁.setTop (mkF m 39 #[.val (.int vp), .val (.int vd), .val (.int vx), .val (.int vy), .val (.int vk), .val (.int vpl), .val (.int vdw), .val (.double dpt), .second, .unset, .unset, .unset, .unset, .unset, .unset, .unset, .unset, .unset, .unset] [(.double (FP.ddiv (FP.i2d (vx &&& (65535 : Int32))) (4616189618054758400 : UInt64)))])) t → Steps p.tables e below (s₁.setTop (entryFrame m #[(.int vp), (.int vd), (.int vx), (.int vy), (.int vk)] maxLocals)) t := fun t kt => by
    refine pre6 _ ?_
    refine XS.dstore X0.here hx rfl (hb hby at_28) rfl (l' := #[.val (.int vp), .val (.int vd), .val (.int vx), .val (.int vy), .val (.int vk), .val (.int vpl), .val (.int vdw), .val (.double dpt), .second, .unset, .unset, .unset, .unset, .unset, .unset, .unset, .unset, .unset, .unset]) rfl ?_
    show Steps p.tables e below (s₁.setTop (mkF m 30 #[.val (.int vp), .val (.int vd), .val (.int vx), .val (.int vy), .val (.int vk), .val (.int vpl), .val (.int vdw), .val (.double dpt), .second, .unset, .unset, .unset, .unset, .unset, .unset, .unset, .unset, .unset, .unset] [])) _
    refine XS.iloadN X0.here hx rfl (hb hby at_30) rfl ?_
    refine X0.ldcInt hx hown (mvT hZ (hw _ (List.mem_of_getElem? (i := 2) rfl))) (g := (mkF m 31 #[.val (.int vp), .val (.int vd), .val (.int vx), .val (.int vy), .val (.int vk), .val (.int vpl), .val (.int vdw), .val (.double dpt), .second, .unset, .unset, .unset, .unset, .unset, .unset, .unset, .unset, .unset, .unset] [(.int vx)])) rfl (hb hby at_31) _ ?_
    refine XS.iand X0.here hx rfl (hb hby at_33) rfl ?_
    refine XS.i2dS X0.here hx rfl (hb hby at_34) rfl rfl ?_
    refine X0.ldc2DoubleC hx hown (mvT hZ (hw _ (List.mem_of_getElem? (i := 3) rfl))) (g := (mkF m 35 #[.val (.int vp), .val (.int vd), .val (.int vx), .val (.int vy), .val (.int vk), .val (.int vpl), .val (.int vdw), .val (.double dpt), .second, .unset, .unset, .unset, .unset, .unset, .unset, .unset, .unset, .unset, .unset] [(.double (FP.i2d (vx &&& (65535 : Int32))))])) rfl (hb hby at_35) _ ?_
    show Steps p.tables e below (s₁.setTop (mkF m 38 #[.val (.int vp), .val (.int vd), .val (.int vx), .val (.int vy), .val (.int vk), .val (.int vpl), .val (.int vdw), .val (.double dpt), .second, .unset, .unset, .unset, .unset, .unset, .unset, .unset, .unset, .unset, .unset] [(.double (4616189618054758400 : UInt64)), (.double (FP.i2d (vx &&& (65535 : Int32))))])) _
    refine XS.ddivS X0.here hx rfl (hb hby at_38) rfl (own_mag (ddiv_mag (i2d_mag _) own_big4 (by omega) (by omega)) (by omega)) rfl ?_
    exact kt
  obtain ⟨da, hda⟩ : ∃ z : UInt64, z = (FP.ddiv (FP.i2d (vx &&& (65535 : Int32))) (4616189618054758400 : UInt64)) := ⟨_, rfl⟩
  have pre8 : ∀ t, Steps p.tables e below (s₁.setTop (mkF m 39 #[.val (.int vp), .val (.int vd), .val (.int vx), .val (.int vy), .val (.int vk), .val (.int vpl), .val (.int vdw), .val (.double dpt), .second, .unset, .unset, .unset, .unset, .unset, .unset, .unset, .unset, .unset, .unset] [(.double da)])) t → Steps p.tables e below (s₁.setTop (entryFrame m #[(.int vp), (.int vd), (.int vx), (.int vy), (.int vk)] maxLocals)) t := by rw [hda]; exact pre7
  have mda : Mag64 1055 da := by rw [hda]; exact (ddiv_mag (i2d_mag _) own_big4 (by omega) (by omega)).mono (by omega)
  have nda := own_mag mda (by omega)
  have pre9 : ∀ t, Steps p.tables e below (s₁.setTop (mkF m 50 #[.val (.int vp), .val (.int vd), .val (.int vx), .val (.int vy), .val (.int vk), .val (.int vpl), .val (.int vdw), .val (.double dpt), .second, .val (.double da), .second, .unset, .unset, .unset, .unset, .unset, .unset, .unset, .unset] [(.double (FP.ddiv (FP.i2d (vy &&& (65535 : Int32))) (4616189618054758400 : UInt64)))])) t → Steps p.tables e below (s₁.setTop (entryFrame m #[(.int vp), (.int vd), (.int vx), (.int vy), (.int vk)] maxLocals)) t := fun t kt => by
    refine pre8 _ ?_
    refine XS.dstore X0.here hx rfl (hb hby at_39) rfl (l' := #[.val (.int vp), .val (.int vd), .val (.int vx), .val (.int vy), .val (.int vk), .val (.int vpl), .val (.int vdw), .val (.double dpt), .second, .val (.double da), .second, .unset, .unset, .unset, .unset, .unset, .unset, .unset, .unset]) rfl ?_
    refine XS.iloadN X0.here hx rfl (hb hby at_41) rfl ?_
    refine X0.ldcInt hx hown (mvT hZ (hw _ (List.mem_of_getElem? (i := 2) rfl))) (g := (mkF m 42 #[.val (.int vp), .val (.int vd), .val (.int vx), .val (.int vy), .val (.int vk), .val (.int vpl), .val (.int vdw), .val (.double dpt), .second, .val (.double da), .second, .unset, .unset, .unset, .unset, .unset, .unset, .unset, .unset] [(.int vy)])) rfl (hb hby at_42) _ ?_
    refine XS.iand X0.here hx rfl (hb hby at_44) rfl ?_
    show Steps p.tables e below (s₁.setTop (mkF m 45 #[.val (.int vp), .val (.int vd), .val (.int vx), .val (.int vy), .val (.int vk), .val (.int vpl), .val (.int vdw), .val (.double dpt), .second, .val (.double da), .second, .unset, .unset, .unset, .unset, .unset, .unset, .unset, .unset] [(.int (vy &&& (65535 : Int32)))])) _
    refine XS.i2dS X0.here hx rfl (hb hby at_45) rfl rfl ?_
    refine X0.ldc2DoubleC hx hown (mvT hZ (hw _ (List.mem_of_getElem? (i := 3) rfl))) (g := (mkF m 46 #[.val (.int vp), .val (.int vd), .val (.int vx), .val (.int vy), .val (.int vk), .val (.int vpl), .val (.int vdw), .val (.double dpt), .second, .val (.double da), .second, .unset, .unset, .unset, .unset, .unset, .unset, .unset, .unset] [(.double (FP.i2d (vy &&& (65535 : Int32))))])) rfl (hb hby at_46) _ ?_
    refine XS.ddivS X0.here hx rfl (hb hby at_49) rfl (own_mag (ddiv_mag (i2d_mag _) own_big4 (by omega) (by omega)) (by omega)) rfl ?_
    exact kt
  obtain ⟨db, hdb⟩ : ∃ z : UInt64, z = (FP.ddiv (FP.i2d (vy &&& (65535 : Int32))) (4616189618054758400 : UInt64)) := ⟨_, rfl⟩
  have pre10 : ∀ t, Steps p.tables e below (s₁.setTop (mkF m 50 #[.val (.int vp), .val (.int vd), .val (.int vx), .val (.int vy), .val (.int vk), .val (.int vpl), .val (.int vdw), .val (.double dpt), .second, .val (.double da), .second, .unset, .unset, .unset, .unset, .unset, .unset, .unset, .unset] [(.double db)])) t → Steps p.tables e below (s₁.setTop (entryFrame m #[(.int vp), (.int vd), (.int vx), (.int vy), (.int vk)] maxLocals)) t := by rw [hdb]; exact pre9
  have mdb : Mag64 1055 db := by rw [hdb]; exact (ddiv_mag (i2d_mag _) own_big4 (by omega) (by omega)).mono (by omega)
  have ndb := own_mag mdb (by omega)
  obtain ⟨T11, h11, k11, X11, e11, E11, A11, st11⟩ := newP X0 hx hZ (hw _ (List.mem_of_getElem? (i := 4) rfl)) e0 (g := (mkF m 54 #[.val (.int vp), .val (.int vd), .val (.int vx), .val (.int vy), .val (.int vk), .val (.int vpl), .val (.int vdw), .val (.double dpt), .second, .val (.double da), .second, .val (.double db), .second, .unset, .unset, .unset, .unset, .unset, .unset] [(.int (16 : Int32))])) rfl (hb hby at_54) rfl (by decide) (cap := 16) (by decide) (by decide) (by decide) (by decide)
  obtain ⟨b11, g11⟩ : ∃ z, z = h0.size := ⟨_, rfl⟩
  have g_b11 : n0 ≤ b11 := Nat.le_trans Z0 (Nat.le_of_eq g11.symm)
  have sz_b11 : h0.size ≤ b11 := Nat.le_trans (Keep.refl h0 []).1 (Nat.le_of_eq g11.symm)
  rw [← g11] at A11 st11
  have Zs12 : n0 ≤ h11.size := Nat.le_trans Z0 E11.1
  have V11 : Arv Z h11 b11 k11 .double (16 : Int32) [(.double (0 : UInt64)), (.double (0 : UInt64)), (.double (0 : UInt64)), (.double (0 : UInt64)), (.double (0 : UInt64)), (.double (0 : UInt64)), (.double (0 : UInt64)), (.double (0 : UInt64)), (.double (0 : UInt64)), (.double (0 : UInt64)), (.double (0 : UInt64)), (.double (0 : UInt64)), (.double (0 : UInt64)), (.double (0 : UInt64)), (.double (0 : UInt64)), (.double (0 : UInt64))] (.double (0 : UInt64)) := (Arv.new A11 (by decide)).pad (pad_rep [] (.double (0 : UInt64)) 16)
  obtain ⟨cl13, Ar13, q13, S13, M13, H13, G13⟩ := id V11
  have hin13 : ¬ ((0 : Int32) < 0 ∨ cl13.slots.size ≤ ((0 : Int32)).toNatClampNeg) := inb_of S13 ⟨by decide, by decide⟩
  obtain ⟨T14, h14, X14, e14, W14, st14⟩ := stD X11 hx hZ e11 Ar13 (j := (0 : Int32)) hin13 (g := (mkF m 61 #[.val (.int vp), .val (.int vd), .val (.int vx), .val (.int vy), .val (.int vk), .val (.int vpl), .val (.int vdw), .val (.double dpt), .second, .val (.double da), .second, .val (.double db), .second, .unset, .unset, .unset, .unset, .unset, .unset] [(.double (4636737291354636288 : UInt64)), (.int (0 : Int32)), (.ref b11), (.ref b11)])) rfl rfl (hb hby at_61)
  have N14 := Fr.snoc X14 N0 g_b11
  have Zs15 : n0 ≤ h14.size := by rw [W14.size]; exact Zs12
  have V14 : Arv Z h14 b11 k11 .double (16 : Int32) [(.double (4636737291354636288 : UInt64)), (.double (0 : UInt64)), (.double (0 : UInt64)), (.double (0 : UInt64)), (.double (0 : UInt64)), (.double (0 : UInt64)), (.double (0 : UInt64)), (.double (0 : UInt64)), (.double (0 : UInt64)), (.double (0 : UInt64)), (.double (0 : UInt64)), (.double (0 : UInt64)), (.double (0 : UInt64)), (.double (0 : UInt64)), (.double (0 : UInt64)), (.double (0 : UInt64))] (.double (0 : UInt64)) := Arv.set Ar13 q13 S13 M13 H13 G13 rfl W14 0 rfl (Nat.le_of_ble_eq_true rfl)
  obtain ⟨cl16, Ar16, q16, S16, M16, H16, G16⟩ := id V14
  have hin16 : ¬ ((1 : Int32) < 0 ∨ cl16.slots.size ≤ ((1 : Int32)).toNatClampNeg) := inb_of S16 ⟨by decide, by decide⟩
  obtain ⟨T17, h17, X17, e17, W17, st17⟩ := stD X14 hx hZ e14 Ar16 (j := (1 : Int32)) hin16 (g := (mkF m 67 #[.val (.int vp), .val (.int vd), .val (.int vx), .val (.int vy), .val (.int vk), .val (.int vpl), .val (.int vdw), .val (.double dpt), .second, .val (.double da), .second, .val (.double db), .second, .unset, .unset, .unset, .unset, .unset, .unset] [(.double (4636807660098813952 : UInt64)), (.int (1 : Int32)), (.ref b11), (.ref b11)])) rfl rfl (hb hby at_67)
  have N17 := Fr.snoc X17 N14 g_b11
  have Zs18 : n0 ≤ h17.size := by rw [W17.size]; exact Zs15
  have V17 : Arv Z h17 b11 k11 .double (16 : Int32) [(.double (4636737291354636288 : UInt64)), (.double (4636807660098813952 : UInt64)), (.double (0 : UInt64)), (.double (0 : UInt64)), (.double (0 : UInt64)), (.double (0 : UInt64)), (.double (0 : UInt64)), (.double (0 : UInt64)), (.double (0 : UInt64)), (.double (0 : UInt64)), (.double (0 : UInt64)), (.double (0 : UInt64)), (.double (0 : UInt64)), (.double (0 : UInt64)), (.double (0 : UInt64)), (.double (0 : UInt64))] (.double (0 : UInt64)) := Arv.set Ar16 q16 S16 M16 H16 G16 rfl W17 1 rfl (Nat.le_of_ble_eq_true rfl)
  obtain ⟨cl19, Ar19, q19, S19, M19, H19, G19⟩ := id V17
  have hin19 : ¬ ((2 : Int32) < 0 ∨ cl19.slots.size ≤ ((2 : Int32)).toNatClampNeg) := inb_of S19 ⟨by decide, by decide⟩
  obtain ⟨T20, h20, X20, e20, W20, st20⟩ := stD X17 hx hZ e17 Ar19 (j := (2 : Int32)) hin19 (g := (mkF m 73 #[.val (.int vp), .val (.int vd), .val (.int vx), .val (.int vy), .val (.int vk), .val (.int vpl), .val (.int vdw), .val (.double dpt), .second, .val (.double da), .second, .val (.double db), .second, .unset, .unset, .unset, .unset, .unset, .unset] [(.double (4636878028842991616 : UInt64)), (.int (2 : Int32)), (.ref b11), (.ref b11)])) rfl rfl (hb hby at_73)
  have N20 := Fr.snoc X20 N17 g_b11
  have Zs21 : n0 ≤ h20.size := by rw [W20.size]; exact Zs18
  have V20 : Arv Z h20 b11 k11 .double (16 : Int32) [(.double (4636737291354636288 : UInt64)), (.double (4636807660098813952 : UInt64)), (.double (4636878028842991616 : UInt64)), (.double (0 : UInt64)), (.double (0 : UInt64)), (.double (0 : UInt64)), (.double (0 : UInt64)), (.double (0 : UInt64)), (.double (0 : UInt64)), (.double (0 : UInt64)), (.double (0 : UInt64)), (.double (0 : UInt64)), (.double (0 : UInt64)), (.double (0 : UInt64)), (.double (0 : UInt64)), (.double (0 : UInt64))] (.double (0 : UInt64)) := Arv.set Ar19 q19 S19 M19 H19 G19 rfl W20 2 rfl (Nat.le_of_ble_eq_true rfl)
  obtain ⟨cl22, Ar22, q22, S22, M22, H22, G22⟩ := id V20
  have hin22 : ¬ ((3 : Int32) < 0 ∨ cl22.slots.size ≤ ((3 : Int32)).toNatClampNeg) := inb_of S22 ⟨by decide, by decide⟩
  obtain ⟨T23, h23, X23, e23, W23, st23⟩ := stD X20 hx hZ e20 Ar22 (j := (3 : Int32)) hin22 (g := (mkF m 79 #[.val (.int vp), .val (.int vd), .val (.int vx), .val (.int vy), .val (.int vk), .val (.int vpl), .val (.int vdw), .val (.double dpt), .second, .val (.double da), .second, .val (.double db), .second, .unset, .unset, .unset, .unset, .unset, .unset] [(.double (4636948397587169280 : UInt64)), (.int (3 : Int32)), (.ref b11), (.ref b11)])) rfl rfl (hb hby at_79)
  have N23 := Fr.snoc X23 N20 g_b11
  have Zs24 : n0 ≤ h23.size := by rw [W23.size]; exact Zs21
  have V23 : Arv Z h23 b11 k11 .double (16 : Int32) [(.double (4636737291354636288 : UInt64)), (.double (4636807660098813952 : UInt64)), (.double (4636878028842991616 : UInt64)), (.double (4636948397587169280 : UInt64)), (.double (0 : UInt64)), (.double (0 : UInt64)), (.double (0 : UInt64)), (.double (0 : UInt64)), (.double (0 : UInt64)), (.double (0 : UInt64)), (.double (0 : UInt64)), (.double (0 : UInt64)), (.double (0 : UInt64)), (.double (0 : UInt64)), (.double (0 : UInt64)), (.double (0 : UInt64))] (.double (0 : UInt64)) := Arv.set Ar22 q22 S22 M22 H22 G22 rfl W23 3 rfl (Nat.le_of_ble_eq_true rfl)
  obtain ⟨cl25, Ar25, q25, S25, M25, H25, G25⟩ := id V23
  have hin25 : ¬ ((4 : Int32) < 0 ∨ cl25.slots.size ≤ ((4 : Int32)).toNatClampNeg) := inb_of S25 ⟨by decide, by decide⟩
  obtain ⟨T26, h26, X26, e26, W26, st26⟩ := stD X23 hx hZ e23 Ar25 (j := (4 : Int32)) hin25 (g := (mkF m 85 #[.val (.int vp), .val (.int vd), .val (.int vx), .val (.int vy), .val (.int vk), .val (.int vpl), .val (.int vdw), .val (.double dpt), .second, .val (.double da), .second, .val (.double db), .second, .unset, .unset, .unset, .unset, .unset, .unset] [(.double (4637018766331346944 : UInt64)), (.int (4 : Int32)), (.ref b11), (.ref b11)])) rfl rfl (hb hby at_85)
  have N26 := Fr.snoc X26 N23 g_b11
  have Zs27 : n0 ≤ h26.size := by rw [W26.size]; exact Zs24
  have V26 : Arv Z h26 b11 k11 .double (16 : Int32) [(.double (4636737291354636288 : UInt64)), (.double (4636807660098813952 : UInt64)), (.double (4636878028842991616 : UInt64)), (.double (4636948397587169280 : UInt64)), (.double (4637018766331346944 : UInt64)), (.double (0 : UInt64)), (.double (0 : UInt64)), (.double (0 : UInt64)), (.double (0 : UInt64)), (.double (0 : UInt64)), (.double (0 : UInt64)), (.double (0 : UInt64)), (.double (0 : UInt64)), (.double (0 : UInt64)), (.double (0 : UInt64)), (.double (0 : UInt64))] (.double (0 : UInt64)) := Arv.set Ar25 q25 S25 M25 H25 G25 rfl W26 4 rfl (Nat.le_of_ble_eq_true rfl)
  obtain ⟨cl28, Ar28, q28, S28, M28, H28, G28⟩ := id V26
  have hin28 : ¬ ((5 : Int32) < 0 ∨ cl28.slots.size ≤ ((5 : Int32)).toNatClampNeg) := inb_of S28 ⟨by decide, by decide⟩
  obtain ⟨T29, h29, X29, e29, W29, st29⟩ := stD X26 hx hZ e26 Ar28 (j := (5 : Int32)) hin28 (g := (mkF m 91 #[.val (.int vp), .val (.int vd), .val (.int vx), .val (.int vy), .val (.int vk), .val (.int vpl), .val (.int vdw), .val (.double dpt), .second, .val (.double da), .second, .val (.double db), .second, .unset, .unset, .unset, .unset, .unset, .unset] [(.double (4637089135075524608 : UInt64)), (.int (5 : Int32)), (.ref b11), (.ref b11)])) rfl rfl (hb hby at_91)
  have N29 := Fr.snoc X29 N26 g_b11
  have Zs30 : n0 ≤ h29.size := by rw [W29.size]; exact Zs27
  have V29 : Arv Z h29 b11 k11 .double (16 : Int32) [(.double (4636737291354636288 : UInt64)), (.double (4636807660098813952 : UInt64)), (.double (4636878028842991616 : UInt64)), (.double (4636948397587169280 : UInt64)), (.double (4637018766331346944 : UInt64)), (.double (4637089135075524608 : UInt64)), (.double (0 : UInt64)), (.double (0 : UInt64)), (.double (0 : UInt64)), (.double (0 : UInt64)), (.double (0 : UInt64)), (.double (0 : UInt64)), (.double (0 : UInt64)), (.double (0 : UInt64)), (.double (0 : UInt64)), (.double (0 : UInt64))] (.double (0 : UInt64)) := Arv.set Ar28 q28 S28 M28 H28 G28 rfl W29 5 rfl (Nat.le_of_ble_eq_true rfl)
  obtain ⟨cl31, Ar31, q31, S31, M31, H31, G31⟩ := id V29
  have hin31 : ¬ ((6 : Int32) < 0 ∨ cl31.slots.size ≤ ((6 : Int32)).toNatClampNeg) := inb_of S31 ⟨by decide, by decide⟩
  obtain ⟨T32, h32, X32, e32, W32, st32⟩ := stD X29 hx hZ e29 Ar31 (j := (6 : Int32)) hin31 (g := (mkF m 98 #[.val (.int vp), .val (.int vd), .val (.int vx), .val (.int vy), .val (.int vk), .val (.int vpl), .val (.int vdw), .val (.double dpt), .second, .val (.double da), .second, .val (.double db), .second, .unset, .unset, .unset, .unset, .unset, .unset] [(.double (4637159503819702272 : UInt64)), (.int (6 : Int32)), (.ref b11), (.ref b11)])) rfl rfl (hb hby at_98)
  have N32 := Fr.snoc X32 N29 g_b11
  have Zs33 : n0 ≤ h32.size := by rw [W32.size]; exact Zs30
  have V32 : Arv Z h32 b11 k11 .double (16 : Int32) [(.double (4636737291354636288 : UInt64)), (.double (4636807660098813952 : UInt64)), (.double (4636878028842991616 : UInt64)), (.double (4636948397587169280 : UInt64)), (.double (4637018766331346944 : UInt64)), (.double (4637089135075524608 : UInt64)), (.double (4637159503819702272 : UInt64)), (.double (0 : UInt64)), (.double (0 : UInt64)), (.double (0 : UInt64)), (.double (0 : UInt64)), (.double (0 : UInt64)), (.double (0 : UInt64)), (.double (0 : UInt64)), (.double (0 : UInt64)), (.double (0 : UInt64))] (.double (0 : UInt64)) := Arv.set Ar31 q31 S31 M31 H31 G31 rfl W32 6 rfl (Nat.le_of_ble_eq_true rfl)
  obtain ⟨cl34, Ar34, q34, S34, M34, H34, G34⟩ := id V32
  have hin34 : ¬ ((7 : Int32) < 0 ∨ cl34.slots.size ≤ ((7 : Int32)).toNatClampNeg) := inb_of S34 ⟨by decide, by decide⟩
  obtain ⟨T35, h35, X35, e35, W35, st35⟩ := stD X32 hx hZ e32 Ar34 (j := (7 : Int32)) hin34 (g := (mkF m 105 #[.val (.int vp), .val (.int vd), .val (.int vx), .val (.int vy), .val (.int vk), .val (.int vpl), .val (.int vdw), .val (.double dpt), .second, .val (.double da), .second, .val (.double db), .second, .unset, .unset, .unset, .unset, .unset, .unset] [(.double (4637229872563879936 : UInt64)), (.int (7 : Int32)), (.ref b11), (.ref b11)])) rfl rfl (hb hby at_105)
  have N35 := Fr.snoc X35 N32 g_b11
  have Zs36 : n0 ≤ h35.size := by rw [W35.size]; exact Zs33
  have V35 : Arv Z h35 b11 k11 .double (16 : Int32) [(.double (4636737291354636288 : UInt64)), (.double (4636807660098813952 : UInt64)), (.double (4636878028842991616 : UInt64)), (.double (4636948397587169280 : UInt64)), (.double (4637018766331346944 : UInt64)), (.double (4637089135075524608 : UInt64)), (.double (4637159503819702272 : UInt64)), (.double (4637229872563879936 : UInt64)), (.double (0 : UInt64)), (.double (0 : UInt64)), (.double (0 : UInt64)), (.double (0 : UInt64)), (.double (0 : UInt64)), (.double (0 : UInt64)), (.double (0 : UInt64)), (.double (0 : UInt64))] (.double (0 : UInt64)) := Arv.set Ar34 q34 S34 M34 H34 G34 rfl W35 7 rfl (Nat.le_of_ble_eq_true rfl)
  obtain ⟨cl37, Ar37, q37, S37, M37, H37, G37⟩ := id V35
  have hin37 : ¬ ((8 : Int32) < 0 ∨ cl37.slots.size ≤ ((8 : Int32)).toNatClampNeg) := inb_of S37 ⟨by decide, by decide⟩
  obtain ⟨T38, h38, X38, e38, W38, st38⟩ := stD X35 hx hZ e35 Ar37 (j := (8 : Int32)) hin37 (g := (mkF m 112 #[.val (.int vp), .val (.int vd), .val (.int vx), .val (.int vy), .val (.int vk), .val (.int vpl), .val (.int vdw), .val (.double dpt), .second, .val (.double da), .second, .val (.double db), .second, .unset, .unset, .unset, .unset, .unset, .unset] [(.double (4637300241308057600 : UInt64)), (.int (8 : Int32)), (.ref b11), (.ref b11)])) rfl rfl (hb hby at_112)
  have N38 := Fr.snoc X38 N35 g_b11
  have Zs39 : n0 ≤ h38.size := by rw [W38.size]; exact Zs36
  have V38 : Arv Z h38 b11 k11 .double (16 : Int32) [(.double (4636737291354636288 : UInt64)), (.double (4636807660098813952 : UInt64)), (.double (4636878028842991616 : UInt64)), (.double (4636948397587169280 : UInt64)), (.double (4637018766331346944 : UInt64)), (.double (4637089135075524608 : UInt64)), (.double (4637159503819702272 : UInt64)), (.double (4637229872563879936 : UInt64)), (.double (4637300241308057600 : UInt64)), (.double (0 : UInt64)), (.double (0 : UInt64)), (.double (0 : UInt64)), (.double (0 : UInt64)), (.double (0 : UInt64)), (.double (0 : UInt64)), (.double (0 : UInt64))] (.double (0 : UInt64)) := Arv.set Ar37 q37 S37 M37 H37 G37 rfl W38 8 rfl (Nat.le_of_ble_eq_true rfl)
  obtain ⟨cl40, Ar40, q40, S40, M40, H40, G40⟩ := id V38
  have hin40 : ¬ ((9 : Int32) < 0 ∨ cl40.slots.size ≤ ((9 : Int32)).toNatClampNeg) := inb_of S40 ⟨by decide, by decide⟩
  obtain ⟨T41, h41, X41, e41, W41, st41⟩ := stD X38 hx hZ e38 Ar40 (j := (9 : Int32)) hin40 (g := (mkF m 119 #[.val (.int vp), .val (.int vd), .val (.int vx), .val (.int vy), .val (.int vk), .val (.int vpl), .val (.int vdw), .val (.double dpt), .second, .val (.double da), .second, .val (.double db), .second, .unset, .unset, .unset, .unset, .unset, .unset] [(.double (4637370610052235264 : UInt64)), (.int (9 : Int32)), (.ref b11), (.ref b11)])) rfl rfl (hb hby at_119)
  have N41 := Fr.snoc X41 N38 g_b11
  have Zs42 : n0 ≤ h41.size := by rw [W41.size]; exact Zs39
  have V41 : Arv Z h41 b11 k11 .double (16 : Int32) [(.double (4636737291354636288 : UInt64)), (.double (4636807660098813952 : UInt64)), (.double (4636878028842991616 : UInt64)), (.double (4636948397587169280 : UInt64)), (.double (4637018766331346944 : UInt64)), (.double (4637089135075524608 : UInt64)), (.double (4637159503819702272 : UInt64)), (.double (4637229872563879936 : UInt64)), (.double (4637300241308057600 : UInt64)), (.double (4637370610052235264 : UInt64)), (.double (0 : UInt64)), (.double (0 : UInt64)), (.double (0 : UInt64)), (.double (0 : UInt64)), (.double (0 : UInt64)), (.double (0 : UInt64))] (.double (0 : UInt64)) := Arv.set Ar40 q40 S40 M40 H40 G40 rfl W41 9 rfl (Nat.le_of_ble_eq_true rfl)
  obtain ⟨cl43, Ar43, q43, S43, M43, H43, G43⟩ := id V41
  have hin43 : ¬ ((10 : Int32) < 0 ∨ cl43.slots.size ≤ ((10 : Int32)).toNatClampNeg) := inb_of S43 ⟨by decide, by decide⟩
  obtain ⟨T44, h44, X44, e44, W44, st44⟩ := stD X41 hx hZ e41 Ar43 (j := (10 : Int32)) hin43 (g := (mkF m 126 #[.val (.int vp), .val (.int vd), .val (.int vx), .val (.int vy), .val (.int vk), .val (.int vpl), .val (.int vdw), .val (.double dpt), .second, .val (.double da), .second, .val (.double db), .second, .unset, .unset, .unset, .unset, .unset, .unset] [(.double (4637440978796412928 : UInt64)), (.int (10 : Int32)), (.ref b11), (.ref b11)])) rfl rfl (hb hby at_126)
  have N44 := Fr.snoc X44 N41 g_b11
  have Zs45 : n0 ≤ h44.size := by rw [W44.size]; exact Zs42
  have V44 : Arv Z h44 b11 k11 .double (16 : Int32) [(.double (4636737291354636288 : UInt64)), (.double (4636807660098813952 : UInt64)), (.double (4636878028842991616 : UInt64)), (.double (4636948397587169280 : UInt64)), (.double (4637018766331346944 : UInt64)), (.double (4637089135075524608 : UInt64)), (.double (4637159503819702272 : UInt64)), (.double (4637229872563879936 : UInt64)), (.double (4637300241308057600 : UInt64)), (.double (4637370610052235264 : UInt64)), (.double (4637440978796412928 : UInt64)), (.double (0 : UInt64)), (.double (0 : UInt64)), (.double (0 : UInt64)), (.double (0 : UInt64)), (.double (0 : UInt64))] (.double (0 : UInt64)) := Arv.set Ar43 q43 S43 M43 H43 G43 rfl W44 10 rfl (Nat.le_of_ble_eq_true rfl)
  obtain ⟨cl46, Ar46, q46, S46, M46, H46, G46⟩ := id V44
  have hin46 : ¬ ((11 : Int32) < 0 ∨ cl46.slots.size ≤ ((11 : Int32)).toNatClampNeg) := inb_of S46 ⟨by decide, by decide⟩
  obtain ⟨T47, h47, X47, e47, W47, st47⟩ := stD X44 hx hZ e44 Ar46 (j := (11 : Int32)) hin46 (g := (mkF m 133 #[.val (.int vp), .val (.int vd), .val (.int vx), .val (.int vy), .val (.int vk), .val (.int vpl), .val (.int vdw), .val (.double dpt), .second, .val (.double da), .second, .val (.double db), .second, .unset, .unset, .unset, .unset, .unset, .unset] [(.double (4637511347540590592 : UInt64)), (.int (11 : Int32)), (.ref b11), (.ref b11)])) rfl rfl (hb hby at_133)
  have N47 := Fr.snoc X47 N44 g_b11
  have Zs48 : n0 ≤ h47.size := by rw [W47.size]; exact Zs45
  have V47 : Arv Z h47 b11 k11 .double (16 : Int32) [(.double (4636737291354636288 : UInt64)), (.double (4636807660098813952 : UInt64)), (.double (4636878028842991616 : UInt64)), (.double (4636948397587169280 : UInt64)), (.double (4637018766331346944 : UInt64)), (.double (4637089135075524608 : UInt64)), (.double (4637159503819702272 : UInt64)), (.double (4637229872563879936 : UInt64)), (.double (4637300241308057600 : UInt64)), (.double (4637370610052235264 : UInt64)), (.double (4637440978796412928 : UInt64)), (.double (4637511347540590592 : UInt64)), (.double (0 : UInt64)), (.double (0 : UInt64)), (.double (0 : UInt64)), (.double (0 : UInt64))] (.double (0 : UInt64)) := Arv.set Ar46 q46 S46 M46 H46 G46 rfl W47 11 rfl (Nat.le_of_ble_eq_true rfl)
  obtain ⟨cl49, Ar49, q49, S49, M49, H49, G49⟩ := id V47
  have hin49 : ¬ ((12 : Int32) < 0 ∨ cl49.slots.size ≤ ((12 : Int32)).toNatClampNeg) := inb_of S49 ⟨by decide, by decide⟩
  obtain ⟨T50, h50, X50, e50, W50, st50⟩ := stD X47 hx hZ e47 Ar49 (j := (12 : Int32)) hin49 (g := (mkF m 140 #[.val (.int vp), .val (.int vd), .val (.int vx), .val (.int vy), .val (.int vk), .val (.int vpl), .val (.int vdw), .val (.double dpt), .second, .val (.double da), .second, .val (.double db), .second, .unset, .unset, .unset, .unset, .unset, .unset] [(.double (4637581716284768256 : UInt64)), (.int (12 : Int32)), (.ref b11), (.ref b11)])) rfl rfl (hb hby at_140)
  have N50 := Fr.snoc X50 N47 g_b11
  have Zs51 : n0 ≤ h50.size := by rw [W50.size]; exact Zs48
  have V50 : Arv Z h50 b11 k11 .double (16 : Int32) [(.double (4636737291354636288 : UInt64)), (.double (4636807660098813952 : UInt64)), (.double (4636878028842991616 : UInt64)), (.double (4636948397587169280 : UInt64)), (.double (4637018766331346944 : UInt64)), (.double (4637089135075524608 : UInt64)), (.double (4637159503819702272 : UInt64)), (.double (4637229872563879936 : UInt64)), (.double (4637300241308057600 : UInt64)), (.double (4637370610052235264 : UInt64)), (.double (4637440978796412928 : UInt64)), (.double (4637511347540590592 : UInt64)), (.double (4637581716284768256 : UInt64)), (.double (0 : UInt64)), (.double (0 : UInt64)), (.double (0 : UInt64))] (.double (0 : UInt64)) := Arv.set Ar49 q49 S49 M49 H49 G49 rfl W50 12 rfl (Nat.le_of_ble_eq_true rfl)
  obtain ⟨cl52, Ar52, q52, S52, M52, H52, G52⟩ := id V50
  have hin52 : ¬ ((13 : Int32) < 0 ∨ cl52.slots.size ≤ ((13 : Int32)).toNatClampNeg) := inb_of S52 ⟨by decide, by decide⟩
  obtain ⟨T53, h53, X53, e53, W53, st53⟩ := stD X50 hx hZ e50 Ar52 (j := (13 : Int32)) hin52 (g := (mkF m 147 #[.val (.int vp), .val (.int vd), .val (.int vx), .val (.int vy), .val (.int vk), .val (.int vpl), .val (.int vdw), .val (.double dpt), .second, .val (.double da), .second, .val (.double db), .second, .unset, .unset, .unset, .unset, .unset, .unset] [(.double (4637652085028945920 : UInt64)), (.int (13 : Int32)), (.ref b11), (.ref b11)])) rfl rfl (hb hby at_147)
  have N53 := Fr.snoc X53 N50 g_b11
  have Zs54 : n0 ≤ h53.size := by rw [W53.size]; exact Zs51
  have V53 : Arv Z h53 b11 k11 .double (16 : Int32) [(.double (4636737291354636288 : UInt64)), (.double (4636807660098813952 : UInt64)), (.double (4636878028842991616 : UInt64)), (.double (4636948397587169280 : UInt64)), (.double (4637018766331346944 : UInt64)), (.double (4637089135075524608 : UInt64)), (.double (4637159503819702272 : UInt64)), (.double (4637229872563879936 : UInt64)), (.double (4637300241308057600 : UInt64)), (.double (4637370610052235264 : UInt64)), (.double (4637440978796412928 : UInt64)), (.double (4637511347540590592 : UInt64)), (.double (4637581716284768256 : UInt64)), (.double (4637652085028945920 : UInt64)), (.double (0 : UInt64)), (.double (0 : UInt64))] (.double (0 : UInt64)) := Arv.set Ar52 q52 S52 M52 H52 G52 rfl W53 13 rfl (Nat.le_of_ble_eq_true rfl)
  obtain ⟨cl55, Ar55, q55, S55, M55, H55, G55⟩ := id V53
  have hin55 : ¬ ((14 : Int32) < 0 ∨ cl55.slots.size ≤ ((14 : Int32)).toNatClampNeg) := inb_of S55 ⟨by decide, by decide⟩
  obtain ⟨T56, h56, X56, e56, W56, st56⟩ := stD X53 hx hZ e53 Ar55 (j := (14 : Int32)) hin55 (g := (mkF m 154 #[.val (.int vp), .val (.int vd), .val (.int vx), .val (.int vy), .val (.int vk), .val (.int vpl), .val (.int vdw), .val (.double dpt), .second, .val (.double da), .second, .val (.double db), .second, .unset, .unset, .unset, .unset, .unset, .unset] [(.double (4637722453773123584 : UInt64)), (.int (14 : Int32)), (.ref b11), (.ref b11)])) rfl rfl (hb hby at_154)
  have N56 := Fr.snoc X56 N53 g_b11
  have Zs57 : n0 ≤ h56.size := by rw [W56.size]; exact Zs54
  have V56 : Arv Z h56 b11 k11 .double (16 : Int32) [(.double (4636737291354636288 : UInt64)), (.double (4636807660098813952 : UInt64)), (.double (4636878028842991616 : UInt64)), (.double (4636948397587169280 : UInt64)), (.double (4637018766331346944 : UInt64)), (.double (4637089135075524608 : UInt64)), (.double (4637159503819702272 : UInt64)), (.double (4637229872563879936 : UInt64)), (.double (4637300241308057600 : UInt64)), (.double (4637370610052235264 : UInt64)), (.double (4637440978796412928 : UInt64)), (.double (4637511347540590592 : UInt64)), (.double (4637581716284768256 : UInt64)), (.double (4637652085028945920 : UInt64)), (.double (4637722453773123584 : UInt64)), (.double (0 : UInt64))] (.double (0 : UInt64)) := Arv.set Ar55 q55 S55 M55 H55 G55 rfl W56 14 rfl (Nat.le_of_ble_eq_true rfl)
  obtain ⟨cl58, Ar58, q58, S58, M58, H58, G58⟩ := id V56
  have hin58 : ¬ ((15 : Int32) < 0 ∨ cl58.slots.size ≤ ((15 : Int32)).toNatClampNeg) := inb_of S58 ⟨by decide, by decide⟩
  obtain ⟨T59, h59, X59, e59, W59, st59⟩ := stD X56 hx hZ e56 Ar58 (j := (15 : Int32)) hin58 (g := (mkF m 161 #[.val (.int vp), .val (.int vd), .val (.int vx), .val (.int vy), .val (.int vk), .val (.int vpl), .val (.int vdw), .val (.double dpt), .second, .val (.double da), .second, .val (.double db), .second, .unset, .unset, .unset, .unset, .unset, .unset] [(.double (4637792822517301248 : UInt64)), (.int (15 : Int32)), (.ref b11), (.ref b11)])) rfl rfl (hb hby at_161)
  have N59 := Fr.snoc X59 N56 g_b11
  have Zs60 : n0 ≤ h59.size := by rw [W59.size]; exact Zs57
  have V59 : Arv Z h59 b11 k11 .double (16 : Int32) [(.double (4636737291354636288 : UInt64)), (.double (4636807660098813952 : UInt64)), (.double (4636878028842991616 : UInt64)), (.double (4636948397587169280 : UInt64)), (.double (4637018766331346944 : UInt64)), (.double (4637089135075524608 : UInt64)), (.double (4637159503819702272 : UInt64)), (.double (4637229872563879936 : UInt64)), (.double (4637300241308057600 : UInt64)), (.double (4637370610052235264 : UInt64)), (.double (4637440978796412928 : UInt64)), (.double (4637511347540590592 : UInt64)), (.double (4637581716284768256 : UInt64)), (.double (4637652085028945920 : UInt64)), (.double (4637722453773123584 : UInt64)), (.double (4637792822517301248 : UInt64))] (.double (0 : UInt64)) := Arv.set Ar58 q58 S58 M58 H58 G58 rfl W59 15 rfl (Nat.le_of_ble_eq_true rfl)
  have Vl61 : Arv Z h59 b11 k11 .double (16 : Int32) own_L0 (.double (0 : UInt64)) := V59
  obtain ⟨T62, h62, k62, X62, e62, E62, A62, st62⟩ := newP X59 hx hZ (hw _ (List.mem_of_getElem? (i := 4) rfl)) e59 (g := (mkF m 166 #[.val (.int vp), .val (.int vd), .val (.int vx), .val (.int vy), .val (.int vk), .val (.int vpl), .val (.int vdw), .val (.double dpt), .second, .val (.double da), .second, .val (.double db), .second, .val (.ref b11), .unset, .unset, .unset, .unset, .unset] [(.int (16 : Int32))])) rfl (hb hby at_166) rfl (by decide) (cap := 16) (by decide) (by decide) (by decide) (by decide)
  obtain ⟨b62, g62⟩ : ∃ z, z = h59.size := ⟨_, rfl⟩
  have ne_b11_b62 : b11 ≠ b62 := Nat.ne_of_lt (Nat.lt_of_lt_of_le Vl61.lt (Nat.le_of_eq g62.symm))
  have g_b62 : n0 ≤ b62 := Nat.le_trans Zs60 (Nat.le_of_eq g62.symm)
  have f63 := ((((((((((((((((((Keep.refl h0 []).ext E11).wr W14 (Or.inr sz_b11)).wr W17 (Or.inr sz_b11)).wr W20 (Or.inr sz_b11)).wr W23 (Or.inr sz_b11)).wr W26 (Or.inr sz_b11)).wr W29 (Or.inr sz_b11)).wr W32 (Or.inr sz_b11)).wr W35 (Or.inr sz_b11)).wr W38 (Or.inr sz_b11)).wr W41 (Or.inr sz_b11)).wr W44 (Or.inr sz_b11)).wr W47 (Or.inr sz_b11)).wr W50 (Or.inr sz_b11)).wr W53 (Or.inr sz_b11)).wr W56 (Or.inr sz_b11)).wr W59 (Or.inr sz_b11))
  have sz_b62 : h0.size ≤ b62 := Nat.le_trans f63.1 (Nat.le_of_eq g62.symm)
  rw [← g62] at A62 st62
  have Zs64 : n0 ≤ h62.size := Nat.le_trans Zs60 E62.1
  have V62 : Arv Z h62 b62 k62 .double (16 : Int32) [(.double (0 : UInt64)), (.double (0 : UInt64)), (.double (0 : UInt64)), (.double (0 : UInt64)), (.double (0 : UInt64)), (.double (0 : UInt64)), (.double (0 : UInt64)), (.double (0 : UInt64)), (.double (0 : UInt64)), (.double (0 : UInt64)), (.double (0 : UInt64)), (.double (0 : UInt64)), (.double (0 : UInt64)), (.double (0 : UInt64)), (.double (0 : UInt64)), (.double (0 : UInt64))] (.double (0 : UInt64)) := (Arv.new A62 (by decide)).pad (pad_rep [] (.double (0 : UInt64)) 16)
  obtain ⟨cl65, Ar65, q65, S65, M65, H65, G65⟩ := id V62
  have hin65 : ¬ ((0 : Int32) < 0 ∨ cl65.slots.size ≤ ((0 : Int32)).toNatClampNeg) := inb_of S65 ⟨by decide, by decide⟩
  obtain ⟨T66, h66, X66, e66, W66, st66⟩ := stD X62 hx hZ e62 Ar65 (j := (0 : Int32)) hin65 (g := (mkF m 173 #[.val (.int vp), .val (.int vd), .val (.int vx), .val (.int vy), .val (.int vk), .val (.int vpl), .val (.int vdw), .val (.double dpt), .second, .val (.double da), .second, .val (.double db), .second, .val (.ref b11), .unset, .unset, .unset, .unset, .unset] [(.double (4636737291354636288 : UInt64)), (.int (0 : Int32)), (.ref b62), (.ref b62)])) rfl rfl (hb hby at_173)
  have N66 := Fr.snoc X66 N59 g_b62
  have Zs67 : n0 ≤ h66.size := by rw [W66.size]; exact Zs64
  have V66 : Arv Z h66 b62 k62 .double (16 : Int32) [(.double (4636737291354636288 : UInt64)), (.double (0 : UInt64)), (.double (0 : UInt64)), (.double (0 : UInt64)), (.double (0 : UInt64)), (.double (0 : UInt64)), (.double (0 : UInt64)), (.double (0 : UInt64)), (.double (0 : UInt64)), (.double (0 : UInt64)), (.double (0 : UInt64)), (.double (0 : UInt64)), (.double (0 : UInt64)), (.double (0 : UInt64)), (.double (0 : UInt64)), (.double (0 : UInt64))] (.double (0 : UInt64)) := Arv.set Ar65 q65 S65 M65 H65 G65 rfl W66 0 rfl (Nat.le_of_ble_eq_true rfl)
  obtain ⟨cl68, Ar68, q68, S68, M68, H68, G68⟩ := id V66
  have hin68 : ¬ ((1 : Int32) < 0 ∨ cl68.slots.size ≤ ((1 : Int32)).toNatClampNeg) := inb_of S68 ⟨by decide, by decide⟩
  obtain ⟨T69, h69, X69, e69, W69, st69⟩ := stD X66 hx hZ e66 Ar68 (j := (1 : Int32)) hin68 (g := (mkF m 179 #[.val (.int vp), .val (.int vd), .val (.int vx), .val (.int vy), .val (.int vk), .val (.int vpl), .val (.int vdw), .val (.double dpt), .second, .val (.double da), .second, .val (.double db), .second, .val (.ref b11), .unset, .unset, .unset, .unset, .unset] [(.double (4636807660098813952 : UInt64)), (.int (1 : Int32)), (.ref b62), (.ref b62)])) rfl rfl (hb hby at_179)
  have N69 := Fr.snoc X69 N66 g_b62
  have Zs70 : n0 ≤ h69.size := by rw [W69.size]; exact Zs67
  have V69 : Arv Z h69 b62 k62 .double (16 : Int32) [(.double (4636737291354636288 : UInt64)), (.double (4636807660098813952 : UInt64)), (.double (0 : UInt64)), (.double (0 : UInt64)), (.double (0 : UInt64)), (.double (0 : UInt64)), (.double (0 : UInt64)), (.double (0 : UInt64)), (.double (0 : UInt64)), (.double (0 : UInt64)), (.double (0 : UInt64)), (.double (0 : UInt64)), (.double (0 : UInt64)), (.double (0 : UInt64)), (.double (0 : UInt64)), (.double (0 : UInt64))] (.double (0 : UInt64)) := Arv.set Ar68 q68 S68 M68 H68 G68 rfl W69 1 rfl (Nat.le_of_ble_eq_true rfl)
  obtain ⟨cl71, Ar71, q71, S71, M71, H71, G71⟩ := id V69
  have hin71 : ¬ ((2 : Int32) < 0 ∨ cl71.slots.size ≤ ((2 : Int32)).toNatClampNeg) := inb_of S71 ⟨by decide, by decide⟩
  obtain ⟨T72, h72, X72, e72, W72, st72⟩ := stD X69 hx hZ e69 Ar71 (j := (2 : Int32)) hin71 (g := (mkF m 185 #[.val (.int vp), .val (.int vd), .val (.int vx), .val (.int vy), .val (.int vk), .val (.int vpl), .val (.int vdw), .val (.double dpt), .second, .val (.double da), .second, .val (.double db), .second, .val (.ref b11), .unset, .unset, .unset, .unset, .unset] [(.double (4636878028842991616 : UInt64)), (.int (2 : Int32)), (.ref b62), (.ref b62)])) rfl rfl (hb hby at_185)
  have N72 := Fr.snoc X72 N69 g_b62
  have Zs73 : n0 ≤ h72.size := by rw [W72.size]; exact Zs70
  have V72 : Arv Z h72 b62 k62 .double (16 : Int32) [(.double (4636737291354636288 : UInt64)), (.double (4636807660098813952 : UInt64)), (.double (4636878028842991616 : UInt64)), (.double (0 : UInt64)), (.double (0 : UInt64)), (.double (0 : UInt64)), (.double (0 : UInt64)), (.double (0 : UInt64)), (.double (0 : UInt64)), (.double (0 : UInt64)), (.double (0 : UInt64)), (.double (0 : UInt64)), (.double (0 : UInt64)), (.double (0 : UInt64)), (.double (0 : UInt64)), (.double (0 : UInt64))] (.double (0 : UInt64)) := Arv.set Ar71 q71 S71 M71 H71 G71 rfl W72 2 rfl (Nat.le_of_ble_eq_true rfl)
  obtain ⟨cl74, Ar74, q74, S74, M74, H74, G74⟩ := id V72
  have hin74 : ¬ ((3 : Int32) < 0 ∨ cl74.slots.size ≤ ((3 : Int32)).toNatClampNeg) := inb_of S74 ⟨by decide, by decide⟩
  obtain ⟨T75, h75, X75, e75, W75, st75⟩ := stD X72 hx hZ e72 Ar74 (j := (3 : Int32)) hin74 (g := (mkF m 191 #[.val (.int vp), .val (.int vd), .val (.int vx), .val (.int vy), .val (.int vk), .val (.int vpl), .val (.int vdw), .val (.double dpt), .second, .val (.double da), .second, .val (.double db), .second, .val (.ref b11), .unset, .unset, .unset, .unset, .unset] [(.double (4636948397587169280 : UInt64)), (.int (3 : Int32)), (.ref b62), (.ref b62)])) rfl rfl (hb hby at_191)
  have N75 := Fr.snoc X75 N72 g_b62
  have Zs76 : n0 ≤ h75.size := by rw [W75.size]; exact Zs73
  have V75 : Arv Z h75 b62 k62 .double (16 : Int32) [(.double (4636737291354636288 : UInt64)), (.double (4636807660098813952 : UInt64)), (.double (4636878028842991616 : UInt64)), (.double (4636948397587169280 : UInt64)), (.double (0 : UInt64)), (.double (0 : UInt64)), (.double (0 : UInt64)), (.double (0 : UInt64)), (.double (0 : UInt64)), (.double (0 : UInt64)), (.double (0 : UInt64)), (.double (0 : UInt64)), (.double (0 : UInt64)), (.double (0 : UInt64)), (.double (0 : UInt64)), (.double (0 : UInt64))] (.double (0 : UInt64)) := Arv.set Ar74 q74 S74 M74 H74 G74 rfl W75 3 rfl (Nat.le_of_ble_eq_true rfl)
  obtain ⟨cl77, Ar77, q77, S77, M77, H77, G77⟩ := id V75
  have hin77 : ¬ ((4 : Int32) < 0 ∨ cl77.slots.size ≤ ((4 : Int32)).toNatClampNeg) := inb_of S77 ⟨by decide, by decide⟩
  obtain ⟨T78, h78, X78, e78, W78, st78⟩ := stD X75 hx hZ e75 Ar77 (j := (4 : Int32)) hin77 (g := (mkF m 197 #[.val (.int vp), .val (.int vd), .val (.int vx), .val (.int vy), .val (.int vk), .val (.int vpl), .val (.int vdw), .val (.double dpt), .second, .val (.double da), .second, .val (.double db), .second, .val (.ref b11), .unset, .unset, .unset, .unset, .unset] [(.double (4637018766331346944 : UInt64)), (.int (4 : Int32)), (.ref b62), (.ref b62)])) rfl rfl (hb hby at_197)
  have N78 := Fr.snoc X78 N75 g_b62
  have Zs79 : n0 ≤ h78.size := by rw [W78.size]; exact Zs76
  have V78 : Arv Z h78 b62 k62 .double (16 : Int32) [(.double (4636737291354636288 : UInt64)), (.double (4636807660098813952 : UInt64)), (.double (4636878028842991616 : UInt64)), (.double (4636948397587169280 : UInt64)), (.double (4637018766331346944 : UInt64)), (.double (0 : UInt64)), (.double (0 : UInt64)), (.double (0 : UInt64)), (.double (0 : UInt64)), (.double (0 : UInt64)), (.double (0 : UInt64)), (.double (0 : UInt64)), (.double (0 : UInt64)), (.double (0 : UInt64)), (.double (0 : UInt64)), (.double (0 : UInt64))] (.double (0 : UInt64)) := Arv.set Ar77 q77 S77 M77 H77 G77 rfl W78 4 rfl (Nat.le_of_ble_eq_true rfl)
  obtain ⟨cl80, Ar80, q80, S80, M80, H80, G80⟩ := id V78
  have hin80 : ¬ ((5 : Int32) < 0 ∨ cl80.slots.size ≤ ((5 : Int32)).toNatClampNeg) := inb_of S80 ⟨by decide, by decide⟩
  obtain ⟨T81, h81, X81, e81, W81, st81⟩ := stD X78 hx hZ e78 Ar80 (j := (5 : Int32)) hin80 (g := (mkF m 203 #[.val (.int vp), .val (.int vd), .val (.int vx), .val (.int vy), .val (.int vk), .val (.int vpl), .val (.int vdw), .val (.double dpt), .second, .val (.double da), .second, .val (.double db), .second, .val (.ref b11), .unset, .unset, .unset, .unset, .unset] [(.double (4637089135075524608 : UInt64)), (.int (5 : Int32)), (.ref b62), (.ref b62)])) rfl rfl (hb hby at_203)
  have N81 := Fr.snoc X81 N78 g_b62
  have Zs82 : n0 ≤ h81.size := by rw [W81.size]; exact Zs79
  have V81 : Arv Z h81 b62 k62 .double (16 : Int32) [(.double (4636737291354636288 : UInt64)), (.double (4636807660098813952 : UInt64)), (.double (4636878028842991616 : UInt64)), (.double (4636948397587169280 : UInt64)), (.double (4637018766331346944 : UInt64)), (.double (4637089135075524608 : UInt64)), (.double (0 : UInt64)), (.double (0 : UInt64)), (.double (0 : UInt64)), (.double (0 : UInt64)), (.double (0 : UInt64)), (.double (0 : UInt64)), (.double (0 : UInt64)), (.double (0 : UInt64)), (.double (0 : UInt64)), (.double (0 : UInt64))] (.double (0 : UInt64)) := Arv.set Ar80 q80 S80 M80 H80 G80 rfl W81 5 rfl (Nat.le_of_ble_eq_true rfl)
  obtain ⟨cl83, Ar83, q83, S83, M83, H83, G83⟩ := id V81
  have hin83 : ¬ ((6 : Int32) < 0 ∨ cl83.slots.size ≤ ((6 : Int32)).toNatClampNeg) := inb_of S83 ⟨by decide, by decide⟩
  obtain ⟨T84, h84, X84, e84, W84, st84⟩ := stD X81 hx hZ e81 Ar83 (j := (6 : Int32)) hin83 (g := (mkF m 210 #[.val (.int vp), .val (.int vd), .val (.int vx), .val (.int vy), .val (.int vk), .val (.int vpl), .val (.int vdw), .val (.double dpt), .second, .val (.double da), .second, .val (.double db), .second, .val (.ref b11), .unset, .unset, .unset, .unset, .unset] [(.double (4637159503819702272 : UInt64)), (.int (6 : Int32)), (.ref b62), (.ref b62)])) rfl rfl (hb hby at_210)
  have N84 := Fr.snoc X84 N81 g_b62
  have Zs85 : n0 ≤ h84.size := by rw [W84.size]; exact Zs82
  have V84 : Arv Z h84 b62 k62 .double (16 : Int32) [(.double (4636737291354636288 : UInt64)), (.double (4636807660098813952 : UInt64)), (.double (4636878028842991616 : UInt64)), (.double (4636948397587169280 : UInt64)), (.double (4637018766331346944 : UInt64)), (.double (4637089135075524608 : UInt64)), (.double (4637159503819702272 : UInt64)), (.double (0 : UInt64)), (.double (0 : UInt64)), (.double (0 : UInt64)), (.double (0 : UInt64)), (.double (0 : UInt64)), (.double (0 : UInt64)), (.double (0 : UInt64)), (.double (0 : UInt64)), (.double (0 : UInt64))] (.double (0 : UInt64)) := Arv.set Ar83 q83 S83 M83 H83 G83 rfl W84 6 rfl (Nat.le_of_ble_eq_true rfl)
  obtain ⟨cl86, Ar86, q86, S86, M86, H86, G86⟩ := id V84
  have hin86 : ¬ ((7 : Int32) < 0 ∨ cl86.slots.size ≤ ((7 : Int32)).toNatClampNeg) := inb_of S86 ⟨by decide, by decide⟩
  obtain ⟨T87, h87, X87, e87, W87, st87⟩ := stD X84 hx hZ e84 Ar86 (j := (7 : Int32)) hin86 (g := (mkF m 217 #[.val (.int vp), .val (.int vd), .val (.int vx), .val (.int vy), .val (.int vk), .val (.int vpl), .val (.int vdw), .val (.double dpt), .second, .val (.double da), .second, .val (.double db), .second, .val (.ref b11), .unset, .unset, .unset, .unset, .unset] [(.double (4637229872563879936 : UInt64)), (.int (7 : Int32)), (.ref b62), (.ref b62)])) rfl rfl (hb hby at_217)
  have N87 := Fr.snoc X87 N84 g_b62
  have Zs88 : n0 ≤ h87.size := by rw [W87.size]; exact Zs85
  have V87 : Arv Z h87 b62 k62 .double (16 : Int32) [(.double (4636737291354636288 : UInt64)), (.double (4636807660098813952 : UInt64)), (.double (4636878028842991616 : UInt64)), (.double (4636948397587169280 : UInt64)), (.double (4637018766331346944 : UInt64)), (.double (4637089135075524608 : UInt64)), (.double (4637159503819702272 : UInt64)), (.double (4637229872563879936 : UInt64)), (.double (0 : UInt64)), (.double (0 : UInt64)), (.double (0 : UInt64)), (.double (0 : UInt64)), (.double (0 : UInt64)), (.double (0 : UInt64)), (.double (0 : UInt64)), (.double (0 : UInt64))] (.double (0 : UInt64)) := Arv.set Ar86 q86 S86 M86 H86 G86 rfl W87 7 rfl (Nat.le_of_ble_eq_true rfl)
  obtain ⟨cl89, Ar89, q89, S89, M89, H89, G89⟩ := id V87
  have hin89 : ¬ ((8 : Int32) < 0 ∨ cl89.slots.size ≤ ((8 : Int32)).toNatClampNeg) := inb_of S89 ⟨by decide, by decide⟩
  obtain ⟨T90, h90, X90, e90, W90, st90⟩ := stD X87 hx hZ e87 Ar89 (j := (8 : Int32)) hin89 (g := (mkF m 224 #[.val (.int vp), .val (.int vd), .val (.int vx), .val (.int vy), .val (.int vk), .val (.int vpl), .val (.int vdw), .val (.double dpt), .second, .val (.double da), .second, .val (.double db), .second, .val (.ref b11), .unset, .unset, .unset, .unset, .unset] [(.double (4637300241308057600 : UInt64)), (.int (8 : Int32)), (.ref b62), (.ref b62)])) rfl rfl (hb hby at_224)
  have N90 := Fr.snoc X90 N87 g_b62
  have Zs91 : n0 ≤ h90.size := by rw [W90.size]; exact Zs88
  have V90 : Arv Z h90 b62 k62 .double (16 : Int32) [(.double (4636737291354636288 : UInt64)), (.double (4636807660098813952 : UInt64)), (.double (4636878028842991616 : UInt64)), (.double (4636948397587169280 : UInt64)), (.double (4637018766331346944 : UInt64)), (.double (4637089135075524608 : UInt64)), (.double (4637159503819702272 : UInt64)), (.double (4637229872563879936 : UInt64)), (.double (4637300241308057600 : UInt64)), (.double (0 : UInt64)), (.double (0 : UInt64)), (.double (0 : UInt64)), (.double (0 : UInt64)), (.double (0 : UInt64)), (.double (0 : UInt64)), (.double (0 : UInt64))] (.double (0 : UInt64)) := Arv.set Ar89 q89 S89 M89 H89 G89 rfl W90 8 rfl (Nat.le_of_ble_eq_true rfl)
  obtain ⟨cl92, Ar92, q92, S92, M92, H92, G92⟩ := id V90
  have hin92 : ¬ ((9 : Int32) < 0 ∨ cl92.slots.size ≤ ((9 : Int32)).toNatClampNeg) := inb_of S92 ⟨by decide, by decide⟩
  obtain ⟨T93, h93, X93, e93, W93, st93⟩ := stD X90 hx hZ e90 Ar92 (j := (9 : Int32)) hin92 (g := (mkF m 231 #[.val (.int vp), .val (.int vd), .val (.int vx), .val (.int vy), .val (.int vk), .val (.int vpl), .val (.int vdw), .val (.double dpt), .second, .val (.double da), .second, .val (.double db), .second, .val (.ref b11), .unset, .unset, .unset, .unset, .unset] [(.double (4637370610052235264 : UInt64)), (.int (9 : Int32)), (.ref b62), (.ref b62)])) rfl rfl (hb hby at_231)
  have N93 := Fr.snoc X93 N90 g_b62
  have Zs94 : n0 ≤ h93.size := by rw [W93.size]; exact Zs91
  have V93 : Arv Z h93 b62 k62 .double (16 : Int32) [(.double (4636737291354636288 : UInt64)), (.double (4636807660098813952 : UInt64)), (.double (4636878028842991616 : UInt64)), (.double (4636948397587169280 : UInt64)), (.double (4637018766331346944 : UInt64)), (.double (4637089135075524608 : UInt64)), (.double (4637159503819702272 : UInt64)), (.double (4637229872563879936 : UInt64)), (.double (4637300241308057600 : UInt64)), (.double (4637370610052235264 : UInt64)), (.double (0 : UInt64)), (.double (0 : UInt64)), (.double (0 : UInt64)), (.double (0 : UInt64)), (.double (0 : UInt64)), (.double (0 : UInt64))] (.double (0 : UInt64)) := Arv.set Ar92 q92 S92 M92 H92 G92 rfl W93 9 rfl (Nat.le_of_ble_eq_true rfl)
  obtain ⟨cl95, Ar95, q95, S95, M95, H95, G95⟩ := id V93
  have hin95 : ¬ ((10 : Int32) < 0 ∨ cl95.slots.size ≤ ((10 : Int32)).toNatClampNeg) := inb_of S95 ⟨by decide, by decide⟩
  obtain ⟨T96, h96, X96, e96, W96, st96⟩ := stD X93 hx hZ e93 Ar95 (j := (10 : Int32)) hin95 (g := (mkF m 238 #[.val (.int vp), .val (.int vd), .val (.int vx), .val (.int vy), .val (.int vk), .val (.int vpl), .val (.int vdw), .val (.double dpt), .second, .val (.double da), .second, .val (.double db), .second, .val (.ref b11), .unset, .unset, .unset, .unset, .unset] [(.double (4637440978796412928 : UInt64)), (.int (10 : Int32)), (.ref b62), (.ref b62)])) rfl rfl (hb hby at_238)
  have N96 := Fr.snoc X96 N93 g_b62
  have Zs97 : n0 ≤ h96.size := by rw [W96.size]; exact Zs94
  have V96 : Arv Z h96 b62 k62 .double (16 : Int32) [(.double (4636737291354636288 : UInt64)), (.double (4636807660098813952 : UInt64)), (.double (4636878028842991616 : UInt64)), (.double (4636948397587169280 : UInt64)), (.double (4637018766331346944 : UInt64)), (.double (4637089135075524608 : UInt64)), (.double (4637159503819702272 : UInt64)), (.double (4637229872563879936 : UInt64)), (.double (4637300241308057600 : UInt64)), (.double (4637370610052235264 : UInt64)), (.double (4637440978796412928 : UInt64)), (.double (0 : UInt64)), (.double (0 : UInt64)), (.double (0 : UInt64)), (.double (0 : UInt64)), (.double (0 : UInt64))] (.double (0 : UInt64)) := Arv.set Ar95 q95 S95 M95 H95 G95 rfl W96 10 rfl (Nat.le_of_ble_eq_true rfl)
  obtain ⟨cl98, Ar98, q98, S98, M98, H98, G98⟩ := id V96
  have hin98 : ¬ ((11 : Int32) < 0 ∨ cl98.slots.size ≤ ((11 : Int32)).toNatClampNeg) := inb_of S98 ⟨by decide, by decide⟩
  obtain ⟨T99, h99, X99, e99, W99, st99⟩ := stD X96 hx hZ e96 Ar98 (j := (11 : Int32)) hin98 (g := (mkF m 245 #[.val (.int vp), .val (.int vd), .val (.int vx), .val (.int vy), .val (.int vk), .val (.int vpl), .val (.int vdw), .val (.double dpt), .second, .val (.double da), .second, .val (.double db), .second, .val (.ref b11), .unset, .unset, .unset, .unset, .unset] [(.double (4637511347540590592 : UInt64)), (.int (11 : Int32)), (.ref b62), (.ref b62)])) rfl rfl (hb hby at_245)
  have N99 := Fr.snoc X99 N96 g_b62
  have Zs100 : n0 ≤ h99.size := by rw [W99.size]; exact Zs97
  have V99 : Arv Z h99 b62 k62 .double (16 : Int32) [(.double (4636737291354636288 : UInt64)), (.double (4636807660098813952 : UInt64)), (.double (4636878028842991616 : UInt64)), (.double (4636948397587169280 : UInt64)), (.double (4637018766331346944 : UInt64)), (.double (4637089135075524608 : UInt64)), (.double (4637159503819702272 : UInt64)), (.double (4637229872563879936 : UInt64)), (.double (4637300241308057600 : UInt64)), (.double (4637370610052235264 : UInt64)), (.double (4637440978796412928 : UInt64)), (.double (4637511347540590592 : UInt64)), (.double (0 : UInt64)), (.double (0 : UInt64)), (.double (0 : UInt64)), (.double (0 : UInt64))] (.double (0 : UInt64)) := Arv.set Ar98 q98 S98 M98 H98 G98 rfl W99 11 rfl (Nat.le_of_ble_eq_true rfl)
  obtain ⟨cl101, Ar101, q101, S101, M101, H101, G101⟩ := id V99
  have hin101 : ¬ ((12 : Int32) < 0 ∨ cl101.slots.size ≤ ((12 : Int32)).toNatClampNeg) := inb_of S101 ⟨by decide, by decide⟩
  obtain ⟨T102, h102, X102, e102, W102, st102⟩ := stD X99 hx hZ e99 Ar101 (j := (12 : Int32)) hin101 (g := (mkF m 252 #[.val (.int vp), .val (.int vd), .val (.int vx), .val (.int vy), .val (.int vk), .val (.int vpl), .val (.int vdw), .val (.double dpt), .second, .val (.double da), .second, .val (.double db), .second, .val (.ref b11), .unset, .unset, .unset, .unset, .unset] [(.double (4637581716284768256 : UInt64)), (.int (12 : Int32)), (.ref b62), (.ref b62)])) rfl rfl (hb hby at_252)
  have N102 := Fr.snoc X102 N99 g_b62
  have Zs103 : n0 ≤ h102.size := by rw [W102.size]; exact Zs100
  have V102 : Arv Z h102 b62 k62 .double (16 : Int32) [(.double (4636737291354636288 : UInt64)), (.double (4636807660098813952 : UInt64)), (.double (4636878028842991616 : UInt64)), (.double (4636948397587169280 : UInt64)), (.double (4637018766331346944 : UInt64)), (.double (4637089135075524608 : UInt64)), (.double (4637159503819702272 : UInt64)), (.double (4637229872563879936 : UInt64)), (.double (4637300241308057600 : UInt64)), (.double (4637370610052235264 : UInt64)), (.double (4637440978796412928 : UInt64)), (.double (4637511347540590592 : UInt64)), (.double (4637581716284768256 : UInt64)), (.double (0 : UInt64)), (.double (0 : UInt64)), (.double (0 : UInt64))] (.double (0 : UInt64)) := Arv.set Ar101 q101 S101 M101 H101 G101 rfl W102 12 rfl (Nat.le_of_ble_eq_true rfl)
  obtain ⟨cl104, Ar104, q104, S104, M104, H104, G104⟩ := id V102
  have hin104 : ¬ ((13 : Int32) < 0 ∨ cl104.slots.size ≤ ((13 : Int32)).toNatClampNeg) := inb_of S104 ⟨by decide, by decide⟩
  obtain ⟨T105, h105, X105, e105, W105, st105⟩ := stD X102 hx hZ e102 Ar104 (j := (13 : Int32)) hin104 (g := (mkF m 259 #[.val (.int vp), .val (.int vd), .val (.int vx), .val (.int vy), .val (.int vk), .val (.int vpl), .val (.int vdw), .val (.double dpt), .second, .val (.double da), .second, .val (.double db), .second, .val (.ref b11), .unset, .unset, .unset, .unset, .unset] [(.double (4637652085028945920 : UInt64)), (.int (13 : Int32)), (.ref b62), (.ref b62)])) rfl rfl (hb hby at_259)
  have N105 := Fr.snoc X105 N102 g_b62
  have Zs106 : n0 ≤ h105.size := by rw [W105.size]; exact Zs103
  have V105 : Arv Z h105 b62 k62 .double (16 : Int32) [(.double (4636737291354636288 : UInt64)), (.double (4636807660098813952 : UInt64)), (.double (4636878028842991616 : UInt64)), (.double (4636948397587169280 : UInt64)), (.double (4637018766331346944 : UInt64)), (.double (4637089135075524608 : UInt64)), (.double (4637159503819702272 : UInt64)), (.double (4637229872563879936 : UInt64)), (.double (4637300241308057600 : UInt64)), (.double (4637370610052235264 : UInt64)), (.double (4637440978796412928 : UInt64)), (.double (4637511347540590592 : UInt64)), (.double (4637581716284768256 : UInt64)), (.double (4637652085028945920 : UInt64)), (.double (0 : UInt64)), (.double (0 : UInt64))] (.double (0 : UInt64)) := Arv.set Ar104 q104 S104 M104 H104 G104 rfl W105 13 rfl (Nat.le_of_ble_eq_true rfl)
  obtain ⟨cl107, Ar107, q107, S107, M107, H107, G107⟩ := id V105
  have hin107 : ¬ ((14 : Int32) < 0 ∨ cl107.slots.size ≤ ((14 : Int32)).toNatClampNeg) := inb_of S107 ⟨by decide, by decide⟩
  obtain ⟨T108, h108, X108, e108, W108, st108⟩ := stD X105 hx hZ e105 Ar107 (j := (14 : Int32)) hin107 (g := (mkF m 266 #[.val (.int vp), .val (.int vd), .val (.int vx), .val (.int vy), .val (.int vk), .val (.int vpl), .val (.int vdw), .val (.double dpt), .second, .val (.double da), .second, .val (.double db), .second, .val (.ref b11), .unset, .unset, .unset, .unset, .unset] [(.double (4637722453773123584 : UInt64)), (.int (14 : Int32)), (.ref b62), (.ref b62)])) rfl rfl (hb hby at_266)
  have N108 := Fr.snoc X108 N105 g_b62
  have Zs109 : n0 ≤ h108.size := by rw [W108.size]; exact Zs106
  have V108 : Arv Z h108 b62 k62 .double (16 : Int32) [(.double (4636737291354636288 : UInt64)), (.double (4636807660098813952 : UInt64)), (.double (4636878028842991616 : UInt64)), (.double (4636948397587169280 : UInt64)), (.double (4637018766331346944 : UInt64)), (.double (4637089135075524608 : UInt64)), (.double (4637159503819702272 : UInt64)), (.double (4637229872563879936 : UInt64)), (.double (4637300241308057600 : UInt64)), (.double (4637370610052235264 : UInt64)), (.double (4637440978796412928 : UInt64)), (.double (4637511347540590592 : UInt64)), (.double (4637581716284768256 : UInt64)), (.double (4637652085028945920 : UInt64)), (.double (4637722453773123584 : UInt64)), (.double (0 : UInt64))] (.double (0 : UInt64)) := Arv.set Ar107 q107 S107 M107 H107 G107 rfl W108 14 rfl (Nat.le_of_ble_eq_true rfl)
  obtain ⟨cl110, Ar110, q110, S110, M110, H110, G110⟩ := id V108
  have hin110 : ¬ ((15 : Int32) < 0 ∨ cl110.slots.size ≤ ((15 : Int32)).toNatClampNeg) := inb_of S110 ⟨by decide, by decide⟩
  obtain ⟨T111, h111, X111, e111, W111, st111⟩ := stD X108 hx hZ e108 Ar110 (j := (15 : Int32)) hin110 (g := (mkF m 273 #[.val (.int vp), .val (.int vd), .val (.int vx), .val (.int vy), .val (.int vk), .val (.int vpl), .val (.int vdw), .val (.double dpt), .second, .val (.double da), .second, .val (.double db), .second, .val (.ref b11), .unset, .unset, .unset, .unset, .unset] [(.double (4637792822517301248 : UInt64)), (.int (15 : Int32)), (.ref b62), (.ref b62)])) rfl rfl (hb hby at_273)
  have N111 := Fr.snoc X111 N108 g_b62
  have Zs112 : n0 ≤ h111.size := by rw [W111.size]; exact Zs109
  have V111 : Arv Z h111 b62 k62 .double (16 : Int32) [(.double (4636737291354636288 : UInt64)), (.double (4636807660098813952 : UInt64)), (.double (4636878028842991616 : UInt64)), (.double (4636948397587169280 : UInt64)), (.double (4637018766331346944 : UInt64)), (.double (4637089135075524608 : UInt64)), (.double (4637159503819702272 : UInt64)), (.double (4637229872563879936 : UInt64)), (.double (4637300241308057600 : UInt64)), (.double (4637370610052235264 : UInt64)), (.double (4637440978796412928 : UInt64)), (.double (4637511347540590592 : UInt64)), (.double (4637581716284768256 : UInt64)), (.double (4637652085028945920 : UInt64)), (.double (4637722453773123584 : UInt64)), (.double (4637792822517301248 : UInt64))] (.double (0 : UInt64)) := Arv.set Ar110 q110 S110 M110 H110 G110 rfl W111 15 rfl (Nat.le_of_ble_eq_true rfl)
  have Vl113 : Arv Z h111 b62 k62 .double (16 : Int32) own_L0 (.double (0 : UInt64)) := V111
  have f114 := (((((((((((((((((Vl61.ext E62).other W66 ne_b11_b62).other W69 ne_b11_b62).other W72 ne_b11_b62).other W75 ne_b11_b62).other W78 ne_b11_b62).other W81 ne_b11_b62).other W84 ne_b11_b62).other W87 ne_b11_b62).other W90 ne_b11_b62).other W93 ne_b11_b62).other W96 ne_b11_b62).other W99 ne_b11_b62).other W102 ne_b11_b62).other W105 ne_b11_b62).other W108 ne_b11_b62).other W111 ne_b11_b62)
  obtain ⟨cl115, Ar115, q115, S115, M115, H115, G115⟩ := id f114
  have hin115 : ¬ ((vpl + vdw) < 0 ∨ cl115.slots.size ≤ ((vpl + vdw)).toNatClampNeg) := inb_of S115 ⟨by rw [Int32.lt_iff_toInt_lt]; have k0 : (0 : Int32).toInt = 0 := (by decide); have := rng32 vpl; have := rng32 vdw; (first | (have : ((vpl + vdw)).toInt = vpl.toInt + vdw.toInt := (by have : (((vpl + vdw)).toInt - (vpl.toInt + vdw.toInt)) % 4294967296 = 0 := c_iadd vpl vdw; have := rng32 (vpl + vdw); omega)) | (have : (((vpl + vdw)).toInt - (vpl.toInt + vdw.toInt)) % 4294967296 = 0 := c_iadd vpl vdw; have := rng32 (vpl + vdw))); omega, by rw [Int32.lt_iff_toInt_lt]; have k0 : (16 : Int32).toInt = 16 := (by decide); have := rng32 vpl; have := rng32 vdw; (first | (have : ((vpl + vdw)).toInt = vpl.toInt + vdw.toInt := (by have : (((vpl + vdw)).toInt - (vpl.toInt + vdw.toInt)) % 4294967296 = 0 := c_iadd vpl vdw; have := rng32 (vpl + vdw); omega)) | (have : (((vpl + vdw)).toInt - (vpl.toInt + vdw.toInt)) % 4294967296 = 0 := c_iadd vpl vdw; have := rng32 (vpl + vdw))); omega⟩
  obtain ⟨T116, h116, X116, e116, W116, st116⟩ := stD X111 hx hZ e111 Ar115 (j := (vpl + vdw)) hin115 (g := (mkF m 285 #[.val (.int vp), .val (.int vd), .val (.int vx), .val (.int vy), .val (.int vk), .val (.int vpl), .val (.int vdw), .val (.double dpt), .second, .val (.double da), .second, .val (.double db), .second, .val (.ref b11), .val (.ref b62), .unset, .unset, .unset, .unset] [(.double da), (.int (vpl + vdw)), (.ref b11)])) rfl rfl (hb hby at_285)
  have N116 := Fr.snoc X116 N111 g_b11
  have Zs117 : n0 ≤ h116.size := by rw [W116.size]; exact Zs112
  have V116 : Arv Z h116 b11 k11 .double (16 : Int32) (own_L0.set (pn + dn) (.double da)) (.double (0 : UInt64)) := Arv.set Ar115 q115 S115 M115 H115 G115 rfl W116 (pn + dn) (own_nat (by push_cast; have := rng32 vpl; have := rng32 vdw; (first | (have : ((vpl + vdw)).toInt = vpl.toInt + vdw.toInt := (by have : (((vpl + vdw)).toInt - (vpl.toInt + vdw.toInt)) % 4294967296 = 0 := c_iadd vpl vdw; have := rng32 (vpl + vdw); omega)) | (have : (((vpl + vdw)).toInt - (vpl.toInt + vdw.toInt)) % 4294967296 = 0 := c_iadd vpl vdw; have := rng32 (vpl + vdw))); omega)) (by (try simp only [List.length_set]); show _ < 16; omega)
  have f118 := (Vl113.other W116 (Ne.symm ne_b11_b62))
  obtain ⟨cl119, Ar119, q119, S119, M119, H119, G119⟩ := id f118
  have hin119 : ¬ ((vpl + vdw) < 0 ∨ cl119.slots.size ≤ ((vpl + vdw)).toNatClampNeg) := inb_of S119 ⟨by rw [Int32.lt_iff_toInt_lt]; have k0 : (0 : Int32).toInt = 0 := (by decide); have := rng32 vpl; have := rng32 vdw; (first | (have : ((vpl + vdw)).toInt = vpl.toInt + vdw.toInt := (by have : (((vpl + vdw)).toInt - (vpl.toInt + vdw.toInt)) % 4294967296 = 0 := c_iadd vpl vdw; have := rng32 (vpl + vdw); omega)) | (have : (((vpl + vdw)).toInt - (vpl.toInt + vdw.toInt)) % 4294967296 = 0 := c_iadd vpl vdw; have := rng32 (vpl + vdw))); omega, by rw [Int32.lt_iff_toInt_lt]; have k0 : (16 : Int32).toInt = 16 := (by decide); have := rng32 vpl; have := rng32 vdw; (first | (have : ((vpl + vdw)).toInt = vpl.toInt + vdw.toInt := (by have : (((vpl + vdw)).toInt - (vpl.toInt + vdw.toInt)) % 4294967296 = 0 := c_iadd vpl vdw; have := rng32 (vpl + vdw); omega)) | (have : (((vpl + vdw)).toInt - (vpl.toInt + vdw.toInt)) % 4294967296 = 0 := c_iadd vpl vdw; have := rng32 (vpl + vdw))); omega⟩
  obtain ⟨T120, h120, X120, e120, W120, st120⟩ := stD X116 hx hZ e116 Ar119 (j := (vpl + vdw)) hin119 (g := (mkF m 295 #[.val (.int vp), .val (.int vd), .val (.int vx), .val (.int vy), .val (.int vk), .val (.int vpl), .val (.int vdw), .val (.double dpt), .second, .val (.double da), .second, .val (.double db), .second, .val (.ref b11), .val (.ref b62), .unset, .unset, .unset, .unset] [(.double da), (.int (vpl + vdw)), (.ref b62)])) rfl rfl (hb hby at_295)
  have N120 := Fr.snoc X120 N116 g_b62
  have Zs121 : n0 ≤ h120.size := by rw [W120.size]; exact Zs117
  have V120 : Arv Z h120 b62 k62 .double (16 : Int32) (own_L0.set (pn + dn) (.double da)) (.double (0 : UInt64)) := Arv.set Ar119 q119 S119 M119 H119 G119 rfl W120 (pn + dn) (own_nat (by push_cast; have := rng32 vpl; have := rng32 vdw; (first | (have : ((vpl + vdw)).toInt = vpl.toInt + vdw.toInt := (by have : (((vpl + vdw)).toInt - (vpl.toInt + vdw.toInt)) % 4294967296 = 0 := c_iadd vpl vdw; have := rng32 (vpl + vdw); omega)) | (have : (((vpl + vdw)).toInt - (vpl.toInt + vdw.toInt)) % 4294967296 = 0 := c_iadd vpl vdw; have := rng32 (vpl + vdw))); omega)) (by (try simp only [List.length_set]); show _ < 16; omega)
  have f122 := (V116.other W120 ne_b11_b62)
  obtain ⟨cl123, Ar123, q123, S123, M123, H123, G123⟩ := id f122
  have hin123 : ¬ ((vpl + (6 : Int32)) < 0 ∨ cl123.slots.size ≤ ((vpl + (6 : Int32))).toNatClampNeg) := inb_of S123 ⟨by rw [Int32.lt_iff_toInt_lt]; have k0 : (0 : Int32).toInt = 0 := (by decide); have := rng32 vpl; (first | (have : ((vpl + (6 : Int32))).toInt = vpl.toInt + (6 : Int) := (by have : (((vpl + (6 : Int32))).toInt - (vpl.toInt + (6 : Int))) % 4294967296 = 0 := c_iadd vpl (6 : Int32); have := rng32 (vpl + (6 : Int32)); omega)) | (have : (((vpl + (6 : Int32))).toInt - (vpl.toInt + (6 : Int))) % 4294967296 = 0 := c_iadd vpl (6 : Int32); have := rng32 (vpl + (6 : Int32)))); omega, by rw [Int32.lt_iff_toInt_lt]; have k0 : (16 : Int32).toInt = 16 := (by decide); have := rng32 vpl; (first | (have : ((vpl + (6 : Int32))).toInt = vpl.toInt + (6 : Int) := (by have : (((vpl + (6 : Int32))).toInt - (vpl.toInt + (6 : Int))) % 4294967296 = 0 := c_iadd vpl (6 : Int32); have := rng32 (vpl + (6 : Int32)); omega)) | (have : (((vpl + (6 : Int32))).toInt - (vpl.toInt + (6 : Int))) % 4294967296 = 0 := c_iadd vpl (6 : Int32); have := rng32 (vpl + (6 : Int32)))); omega⟩
  obtain ⟨T124, h124, X124, e124, W124, st124⟩ := stD X120 hx hZ e120 Ar123 (j := (vpl + (6 : Int32))) hin123 (g := (mkF m 305 #[.val (.int vp), .val (.int vd), .val (.int vx), .val (.int vy), .val (.int vk), .val (.int vpl), .val (.int vdw), .val (.double dpt), .second, .val (.double da), .second, .val (.double db), .second, .val (.ref b11), .val (.ref b62), .unset, .unset, .unset, .unset] [(.double db), (.int (vpl + (6 : Int32))), (.ref b11)])) rfl rfl (hb hby at_305)
  have N124 := Fr.snoc X124 N120 g_b11
  have Zs125 : n0 ≤ h124.size := by rw [W124.size]; exact Zs121
  have V124 : Arv Z h124 b11 k11 .double (16 : Int32) ((own_L0.set (pn + dn) (.double da)).set (pn + 6) (.double db)) (.double (0 : UInt64)) := Arv.set Ar123 q123 S123 M123 H123 G123 rfl W124 (pn + 6) (own_nat (by push_cast; have := rng32 vpl; (first | (have : ((vpl + (6 : Int32))).toInt = vpl.toInt + (6 : Int) := (by have : (((vpl + (6 : Int32))).toInt - (vpl.toInt + (6 : Int))) % 4294967296 = 0 := c_iadd vpl (6 : Int32); have := rng32 (vpl + (6 : Int32)); omega)) | (have : (((vpl + (6 : Int32))).toInt - (vpl.toInt + (6 : Int))) % 4294967296 = 0 := c_iadd vpl (6 : Int32); have := rng32 (vpl + (6 : Int32)))); omega)) (by (try simp only [List.length_set]); show _ < 16; omega)
  have f126 := (V120.other W124 (Ne.symm ne_b11_b62))
  obtain ⟨cl127, Ar127, q127, S127, M127, H127, G127⟩ := id f126
  have hin127 : ¬ ((vpl + (6 : Int32)) < 0 ∨ cl127.slots.size ≤ ((vpl + (6 : Int32))).toNatClampNeg) := inb_of S127 ⟨by rw [Int32.lt_iff_toInt_lt]; have k0 : (0 : Int32).toInt = 0 := (by decide); have := rng32 vpl; (first | (have : ((vpl + (6 : Int32))).toInt = vpl.toInt + (6 : Int) := (by have : (((vpl + (6 : Int32))).toInt - (vpl.toInt + (6 : Int))) % 4294967296 = 0 := c_iadd vpl (6 : Int32); have := rng32 (vpl + (6 : Int32)); omega)) | (have : (((vpl + (6 : Int32))).toInt - (vpl.toInt + (6 : Int))) % 4294967296 = 0 := c_iadd vpl (6 : Int32); have := rng32 (vpl + (6 : Int32)))); omega, by rw [Int32.lt_iff_toInt_lt]; have k0 : (16 : Int32).toInt = 16 := (by decide); have := rng32 vpl; (first | (have : ((vpl + (6 : Int32))).toInt = vpl.toInt + (6 : Int) := (by have : (((vpl + (6 : Int32))).toInt - (vpl.toInt + (6 : Int))) % 4294967296 = 0 := c_iadd vpl (6 : Int32); have := rng32 (vpl + (6 : Int32)); omega)) | (have : (((vpl + (6 : Int32))).toInt - (vpl.toInt + (6 : Int))) % 4294967296 = 0 := c_iadd vpl (6 : Int32); have := rng32 (vpl + (6 : Int32)))); omega⟩
  obtain ⟨T128, h128, X128, e128, W128, st128⟩ := stD X124 hx hZ e124 Ar127 (j := (vpl + (6 : Int32))) hin127 (g := (mkF m 315 #[.val (.int vp), .val (.int vd), .val (.int vx), .val (.int vy), .val (.int vk), .val (.int vpl), .val (.int vdw), .val (.double dpt), .second, .val (.double da), .second, .val (.double db), .second, .val (.ref b11), .val (.ref b62), .unset, .unset, .unset, .unset] [(.double db), (.int (vpl + (6 : Int32))), (.ref b62)])) rfl rfl (hb hby at_315)
  have N128 := Fr.snoc X128 N124 g_b62
  have Zs129 : n0 ≤ h128.size := by rw [W128.size]; exact Zs125
  have V128 : Arv Z h128 b62 k62 .double (16 : Int32) ((own_L0.set (pn + dn) (.double da)).set (pn + 6) (.double db)) (.double (0 : UInt64)) := Arv.set Ar127 q127 S127 M127 H127 G127 rfl W128 (pn + 6) (own_nat (by push_cast; have := rng32 vpl; (first | (have : ((vpl + (6 : Int32))).toInt = vpl.toInt + (6 : Int) := (by have : (((vpl + (6 : Int32))).toInt - (vpl.toInt + (6 : Int))) % 4294967296 = 0 := c_iadd vpl (6 : Int32); have := rng32 (vpl + (6 : Int32)); omega)) | (have : (((vpl + (6 : Int32))).toInt - (vpl.toInt + (6 : Int))) % 4294967296 = 0 := c_iadd vpl (6 : Int32); have := rng32 (vpl + (6 : Int32)))); omega)) (by (try simp only [List.length_set]); show _ < 16; omega)
  have pre130 : ∀ t, Steps p.tables e below (T128.setTop (mkF m 324 #[.val (.int vp), .val (.int vd), .val (.int vx), .val (.int vy), .val (.int vk), .val (.int vpl), .val (.int vdw), .val (.double dpt), .second, .val (.double da), .second, .val (.double db), .second, .val (.ref b11), .val (.ref b62), .unset, .unset, .unset, .unset] [(.double dpt), (.int vdw), (.int vpl), (.ref b11)])) t → Steps p.tables e below (s₁.setTop (entryFrame m #[(.int vp), (.int vd), (.int vx), (.int vy), (.int vk)] maxLocals)) t := fun t kt => by
    refine pre10 _ ?_
    refine XS.dstore X0.here hx rfl (hb hby at_50) rfl (l' := #[.val (.int vp), .val (.int vd), .val (.int vx), .val (.int vy), .val (.int vk), .val (.int vpl), .val (.int vdw), .val (.double dpt), .second, .val (.double da), .second, .val (.double db), .second, .unset, .unset, .unset, .unset, .unset, .unset]) rfl ?_
    refine XS.bipush X0.here hx rfl (hb hby at_52) ?_
    show Steps p.tables e below (s₁.setTop (mkF m 54 #[.val (.int vp), .val (.int vd), .val (.int vx), .val (.int vy), .val (.int vk), .val (.int vpl), .val (.int vdw), .val (.double dpt), .second, .val (.double da), .second, .val (.double db), .second, .unset, .unset, .unset, .unset, .unset, .unset] [(.int (16 : Int32))])) _
    refine st11 _ ?_
    refine XS.dup X11.here hx rfl (hb hby at_56) rfl rfl ?_
    refine XS.iconst X11.here hx rfl (hb hby at_57) ?_
    refine X11.ldc2DoubleC hx hown (mvT hZ (hw _ (List.mem_of_getElem? (i := 5) rfl))) (g := (mkF m 58 #[.val (.int vp), .val (.int vd), .val (.int vx), .val (.int vy), .val (.int vk), .val (.int vpl), .val (.int vdw), .val (.double dpt), .second, .val (.double da), .second, .val (.double db), .second, .unset, .unset, .unset, .unset, .unset, .unset] [(.int (0 : Int32)), (.ref b11), (.ref b11)])) rfl (hb hby at_58) _ ?_
    refine st14 _ ?_
    show Steps p.tables e below (T14.setTop (mkF m 62 #[.val (.int vp), .val (.int vd), .val (.int vx), .val (.int vy), .val (.int vk), .val (.int vpl), .val (.int vdw), .val (.double dpt), .second, .val (.double da), .second, .val (.double db), .second, .unset, .unset, .unset, .unset, .unset, .unset] [(.ref b11)])) _
    refine XS.dup X14.here hx rfl (hb hby at_62) rfl rfl ?_
    refine XS.iconst X14.here hx rfl (hb hby at_63) ?_
    refine X14.ldc2DoubleC hx hown (mvT hZ (hw _ (List.mem_of_getElem? (i := 6) rfl))) (g := (mkF m 64 #[.val (.int vp), .val (.int vd), .val (.int vx), .val (.int vy), .val (.int vk), .val (.int vpl), .val (.int vdw), .val (.double dpt), .second, .val (.double da), .second, .val (.double db), .second, .unset, .unset, .unset, .unset, .unset, .unset] [(.int (1 : Int32)), (.ref b11), (.ref b11)])) rfl (hb hby at_64) _ ?_
    refine st17 _ ?_
    refine XS.dup X17.here hx rfl (hb hby at_68) rfl rfl ?_
    show Steps p.tables e below (T17.setTop (mkF m 69 #[.val (.int vp), .val (.int vd), .val (.int vx), .val (.int vy), .val (.int vk), .val (.int vpl), .val (.int vdw), .val (.double dpt), .second, .val (.double da), .second, .val (.double db), .second, .unset, .unset, .unset, .unset, .unset, .unset] [(.ref b11), (.ref b11)])) _
    refine XS.iconst X17.here hx rfl (hb hby at_69) ?_
    refine X17.ldc2DoubleC hx hown (mvT hZ (hw _ (List.mem_of_getElem? (i := 7) rfl))) (g := (mkF m 70 #[.val (.int vp), .val (.int vd), .val (.int vx), .val (.int vy), .val (.int vk), .val (.int vpl), .val (.int vdw), .val (.double dpt), .second, .val (.double da), .second, .val (.double db), .second, .unset, .unset, .unset, .unset, .unset, .unset] [(.int (2 : Int32)), (.ref b11), (.ref b11)])) rfl (hb hby at_70) _ ?_
    refine st20 _ ?_
    refine XS.dup X20.here hx rfl (hb hby at_74) rfl rfl ?_
    refine XS.iconst X20.here hx rfl (hb hby at_75) ?_
    show Steps p.tables e below (T20.setTop (mkF m 76 #[.val (.int vp), .val (.int vd), .val (.int vx), .val (.int vy), .val (.int vk), .val (.int vpl), .val (.int vdw), .val (.double dpt), .second, .val (.double da), .second, .val (.double db), .second, .unset, .unset, .unset, .unset, .unset, .unset] [(.int (3 : Int32)), (.ref b11), (.ref b11)])) _
    refine X20.ldc2DoubleC hx hown (mvT hZ (hw _ (List.mem_of_getElem? (i := 8) rfl))) (g := (mkF m 76 #[.val (.int vp), .val (.int vd), .val (.int vx), .val (.int vy), .val (.int vk), .val (.int vpl), .val (.int vdw), .val (.double dpt), .second, .val (.double da), .second, .val (.double db), .second, .unset, .unset, .unset, .unset, .unset, .unset] [(.int (3 : Int32)), (.ref b11), (.ref b11)])) rfl (hb hby at_76) _ ?_
    refine st23 _ ?_
    refine XS.dup X23.here hx rfl (hb hby at_80) rfl rfl ?_
    refine XS.iconst X23.here hx rfl (hb hby at_81) ?_
    refine X23.ldc2DoubleC hx hown (mvT hZ (hw _ (List.mem_of_getElem? (i := 9) rfl))) (g := (mkF m 82 #[.val (.int vp), .val (.int vd), .val (.int vx), .val (.int vy), .val (.int vk), .val (.int vpl), .val (.int vdw), .val (.double dpt), .second, .val (.double da), .second, .val (.double db), .second, .unset, .unset, .unset, .unset, .unset, .unset] [(.int (4 : Int32)), (.ref b11), (.ref b11)])) rfl (hb hby at_82) _ ?_
    show Steps p.tables e below (T23.setTop (mkF m 85 #[.val (.int vp), .val (.int vd), .val (.int vx), .val (.int vy), .val (.int vk), .val (.int vpl), .val (.int vdw), .val (.double dpt), .second, .val (.double da), .second, .val (.double db), .second, .unset, .unset, .unset, .unset, .unset, .unset] [(.double (4637018766331346944 : UInt64)), (.int (4 : Int32)), (.ref b11), (.ref b11)])) _
    refine st26 _ ?_
    refine XS.dup X26.here hx rfl (hb hby at_86) rfl rfl ?_
    refine XS.iconst X26.here hx rfl (hb hby at_87) ?_
    refine X26.ldc2DoubleC hx hown (mvT hZ (hw _ (List.mem_of_getElem? (i := 10) rfl))) (g := (mkF m 88 #[.val (.int vp), .val (.int vd), .val (.int vx), .val (.int vy), .val (.int vk), .val (.int vpl), .val (.int vdw), .val (.double dpt), .second, .val (.double da), .second, .val (.double db), .second, .unset, .unset, .unset, .unset, .unset, .unset] [(.int (5 : Int32)), (.ref b11), (.ref b11)])) rfl (hb hby at_88) _ ?_
    refine st29 _ ?_
    show Steps p.tables e below (T29.setTop (mkF m 92 #[.val (.int vp), .val (.int vd), .val (.int vx), .val (.int vy), .val (.int vk), .val (.int vpl), .val (.int vdw), .val (.double dpt), .second, .val (.double da), .second, .val (.double db), .second, .unset, .unset, .unset, .unset, .unset, .unset] [(.ref b11)])) _
    refine XS.dup X29.here hx rfl (hb hby at_92) rfl rfl ?_
    refine XS.bipush X29.here hx rfl (hb hby at_93) ?_
    refine X29.ldc2DoubleC hx hown (mvT hZ (hw _ (List.mem_of_getElem? (i := 11) rfl))) (g := (mkF m 95 #[.val (.int vp), .val (.int vd), .val (.int vx), .val (.int vy), .val (.int vk), .val (.int vpl), .val (.int vdw), .val (.double dpt), .second, .val (.double da), .second, .val (.double db), .second, .unset, .unset, .unset, .unset, .unset, .unset] [(.int (6 : Int32)), (.ref b11), (.ref b11)])) rfl (hb hby at_95) _ ?_
    refine st32 _ ?_
    refine XS.dup X32.here hx rfl (hb hby at_99) rfl rfl ?_
    show Steps p.tables e below (T32.setTop (mkF m 100 #[.val (.int vp), .val (.int vd), .val (.int vx), .val (.int vy), .val (.int vk), .val (.int vpl), .val (.int vdw), .val (.double dpt), .second, .val (.double da), .second, .val (.double db), .second, .unset, .unset, .unset, .unset, .unset, .unset] [(.ref b11), (.ref b11)])) _
    refine XS.bipush X32.here hx rfl (hb hby at_100) ?_
    refine X32.ldc2DoubleC hx hown (mvT hZ (hw _ (List.mem_of_getElem? (i := 12) rfl))) (g := (mkF m 102 #[.val (.int vp), .val (.int vd), .val (.int vx), .val (.int vy), .val (.int vk), .val (.int vpl), .val (.int vdw), .val (.double dpt), .second, .val (.double da), .second, .val (.double db), .second, .unset, .unset, .unset, .unset, .unset, .unset] [(.int (7 : Int32)), (.ref b11), (.ref b11)])) rfl (hb hby at_102) _ ?_
    refine st35 _ ?_
    refine XS.dup X35.here hx rfl (hb hby at_106) rfl rfl ?_
    refine XS.bipush X35.here hx rfl (hb hby at_107) ?_
    show Steps p.tables e below (T35.setTop (mkF m 109 #[.val (.int vp), .val (.int vd), .val (.int vx), .val (.int vy), .val (.int vk), .val (.int vpl), .val (.int vdw), .val (.double dpt), .second, .val (.double da), .second, .val (.double db), .second, .unset, .unset, .unset, .unset, .unset, .unset] [(.int (8 : Int32)), (.ref b11), (.ref b11)])) _
    refine X35.ldc2DoubleC hx hown (mvT hZ (hw _ (List.mem_of_getElem? (i := 13) rfl))) (g := (mkF m 109 #[.val (.int vp), .val (.int vd), .val (.int vx), .val (.int vy), .val (.int vk), .val (.int vpl), .val (.int vdw), .val (.double dpt), .second, .val (.double da), .second, .val (.double db), .second, .unset, .unset, .unset, .unset, .unset, .unset] [(.int (8 : Int32)), (.ref b11), (.ref b11)])) rfl (hb hby at_109) _ ?_
    refine st38 _ ?_
    refine XS.dup X38.here hx rfl (hb hby at_113) rfl rfl ?_
    refine XS.bipush X38.here hx rfl (hb hby at_114) ?_
    refine X38.ldc2DoubleC hx hown (mvT hZ (hw _ (List.mem_of_getElem? (i := 14) rfl))) (g := (mkF m 116 #[.val (.int vp), .val (.int vd), .val (.int vx), .val (.int vy), .val (.int vk), .val (.int vpl), .val (.int vdw), .val (.double dpt), .second, .val (.double da), .second, .val (.double db), .second, .unset, .unset, .unset, .unset, .unset, .unset] [(.int (9 : Int32)), (.ref b11), (.ref b11)])) rfl (hb hby at_116) _ ?_
    show Steps p.tables e below (T38.setTop (mkF m 119 #[.val (.int vp), .val (.int vd), .val (.int vx), .val (.int vy), .val (.int vk), .val (.int vpl), .val (.int vdw), .val (.double dpt), .second, .val (.double da), .second, .val (.double db), .second, .unset, .unset, .unset, .unset, .unset, .unset] [(.double (4637370610052235264 : UInt64)), (.int (9 : Int32)), (.ref b11), (.ref b11)])) _
    refine st41 _ ?_
    refine XS.dup X41.here hx rfl (hb hby at_120) rfl rfl ?_
    refine XS.bipush X41.here hx rfl (hb hby at_121) ?_
    refine X41.ldc2DoubleC hx hown (mvT hZ (hw _ (List.mem_of_getElem? (i := 15) rfl))) (g := (mkF m 123 #[.val (.int vp), .val (.int vd), .val (.int vx), .val (.int vy), .val (.int vk), .val (.int vpl), .val (.int vdw), .val (.double dpt), .second, .val (.double da), .second, .val (.double db), .second, .unset, .unset, .unset, .unset, .unset, .unset] [(.int (10 : Int32)), (.ref b11), (.ref b11)])) rfl (hb hby at_123) _ ?_
    refine st44 _ ?_
    show Steps p.tables e below (T44.setTop (mkF m 127 #[.val (.int vp), .val (.int vd), .val (.int vx), .val (.int vy), .val (.int vk), .val (.int vpl), .val (.int vdw), .val (.double dpt), .second, .val (.double da), .second, .val (.double db), .second, .unset, .unset, .unset, .unset, .unset, .unset] [(.ref b11)])) _
    refine XS.dup X44.here hx rfl (hb hby at_127) rfl rfl ?_
    refine XS.bipush X44.here hx rfl (hb hby at_128) ?_
    refine X44.ldc2DoubleC hx hown (mvT hZ (hw _ (List.mem_of_getElem? (i := 16) rfl))) (g := (mkF m 130 #[.val (.int vp), .val (.int vd), .val (.int vx), .val (.int vy), .val (.int vk), .val (.int vpl), .val (.int vdw), .val (.double dpt), .second, .val (.double da), .second, .val (.double db), .second, .unset, .unset, .unset, .unset, .unset, .unset] [(.int (11 : Int32)), (.ref b11), (.ref b11)])) rfl (hb hby at_130) _ ?_
    refine st47 _ ?_
    refine XS.dup X47.here hx rfl (hb hby at_134) rfl rfl ?_
    show Steps p.tables e below (T47.setTop (mkF m 135 #[.val (.int vp), .val (.int vd), .val (.int vx), .val (.int vy), .val (.int vk), .val (.int vpl), .val (.int vdw), .val (.double dpt), .second, .val (.double da), .second, .val (.double db), .second, .unset, .unset, .unset, .unset, .unset, .unset] [(.ref b11), (.ref b11)])) _
    refine XS.bipush X47.here hx rfl (hb hby at_135) ?_
    refine X47.ldc2DoubleC hx hown (mvT hZ (hw _ (List.mem_of_getElem? (i := 17) rfl))) (g := (mkF m 137 #[.val (.int vp), .val (.int vd), .val (.int vx), .val (.int vy), .val (.int vk), .val (.int vpl), .val (.int vdw), .val (.double dpt), .second, .val (.double da), .second, .val (.double db), .second, .unset, .unset, .unset, .unset, .unset, .unset] [(.int (12 : Int32)), (.ref b11), (.ref b11)])) rfl (hb hby at_137) _ ?_
    refine st50 _ ?_
    refine XS.dup X50.here hx rfl (hb hby at_141) rfl rfl ?_
    refine XS.bipush X50.here hx rfl (hb hby at_142) ?_
    show Steps p.tables e below (T50.setTop (mkF m 144 #[.val (.int vp), .val (.int vd), .val (.int vx), .val (.int vy), .val (.int vk), .val (.int vpl), .val (.int vdw), .val (.double dpt), .second, .val (.double da), .second, .val (.double db), .second, .unset, .unset, .unset, .unset, .unset, .unset] [(.int (13 : Int32)), (.ref b11), (.ref b11)])) _
    refine X50.ldc2DoubleC hx hown (mvT hZ (hw _ (List.mem_of_getElem? (i := 18) rfl))) (g := (mkF m 144 #[.val (.int vp), .val (.int vd), .val (.int vx), .val (.int vy), .val (.int vk), .val (.int vpl), .val (.int vdw), .val (.double dpt), .second, .val (.double da), .second, .val (.double db), .second, .unset, .unset, .unset, .unset, .unset, .unset] [(.int (13 : Int32)), (.ref b11), (.ref b11)])) rfl (hb hby at_144) _ ?_
    refine st53 _ ?_
    refine XS.dup X53.here hx rfl (hb hby at_148) rfl rfl ?_
    refine XS.bipush X53.here hx rfl (hb hby at_149) ?_
    refine X53.ldc2DoubleC hx hown (mvT hZ (hw _ (List.mem_of_getElem? (i := 19) rfl))) (g := (mkF m 151 #[.val (.int vp), .val (.int vd), .val (.int vx), .val (.int vy), .val (.int vk), .val (.int vpl), .val (.int vdw), .val (.double dpt), .second, .val (.double da), .second, .val (.double db), .second, .unset, .unset, .unset, .unset, .unset, .unset] [(.int (14 : Int32)), (.ref b11), (.ref b11)])) rfl (hb hby at_151) _ ?_
    show Steps p.tables e below (T53.setTop (mkF m 154 #[.val (.int vp), .val (.int vd), .val (.int vx), .val (.int vy), .val (.int vk), .val (.int vpl), .val (.int vdw), .val (.double dpt), .second, .val (.double da), .second, .val (.double db), .second, .unset, .unset, .unset, .unset, .unset, .unset] [(.double (4637722453773123584 : UInt64)), (.int (14 : Int32)), (.ref b11), (.ref b11)])) _
    refine st56 _ ?_
    refine XS.dup X56.here hx rfl (hb hby at_155) rfl rfl ?_
    refine XS.bipush X56.here hx rfl (hb hby at_156) ?_
    refine X56.ldc2DoubleC hx hown (mvT hZ (hw _ (List.mem_of_getElem? (i := 20) rfl))) (g := (mkF m 158 #[.val (.int vp), .val (.int vd), .val (.int vx), .val (.int vy), .val (.int vk), .val (.int vpl), .val (.int vdw), .val (.double dpt), .second, .val (.double da), .second, .val (.double db), .second, .unset, .unset, .unset, .unset, .unset, .unset] [(.int (15 : Int32)), (.ref b11), (.ref b11)])) rfl (hb hby at_158) _ ?_
    refine st59 _ ?_
    show Steps p.tables e below (T59.setTop (mkF m 162 #[.val (.int vp), .val (.int vd), .val (.int vx), .val (.int vy), .val (.int vk), .val (.int vpl), .val (.int vdw), .val (.double dpt), .second, .val (.double da), .second, .val (.double db), .second, .unset, .unset, .unset, .unset, .unset, .unset] [(.ref b11)])) _
    refine XS.astore X59.here hx rfl (hb hby at_162) rfl rfl (l' := #[.val (.int vp), .val (.int vd), .val (.int vx), .val (.int vy), .val (.int vk), .val (.int vpl), .val (.int vdw), .val (.double dpt), .second, .val (.double da), .second, .val (.double db), .second, .val (.ref b11), .unset, .unset, .unset, .unset, .unset]) rfl ?_
    refine XS.bipush X59.here hx rfl (hb hby at_164) ?_
    refine st62 _ ?_
    refine XS.dup X62.here hx rfl (hb hby at_168) rfl rfl ?_
    refine XS.iconst X62.here hx rfl (hb hby at_169) ?_
    show Steps p.tables e below (T62.setTop (mkF m 170 #[.val (.int vp), .val (.int vd), .val (.int vx), .val (.int vy), .val (.int vk), .val (.int vpl), .val (.int vdw), .val (.double dpt), .second, .val (.double da), .second, .val (.double db), .second, .val (.ref b11), .unset, .unset, .unset, .unset, .unset] [(.int (0 : Int32)), (.ref b62), (.ref b62)])) _
    refine X62.ldc2DoubleC hx hown (mvT hZ (hw _ (List.mem_of_getElem? (i := 5) rfl))) (g := (mkF m 170 #[.val (.int vp), .val (.int vd), .val (.int vx), .val (.int vy), .val (.int vk), .val (.int vpl), .val (.int vdw), .val (.double dpt), .second, .val (.double da), .second, .val (.double db), .second, .val (.ref b11), .unset, .unset, .unset, .unset, .unset] [(.int (0 : Int32)), (.ref b62), (.ref b62)])) rfl (hb hby at_170) _ ?_
    refine st66 _ ?_
    refine XS.dup X66.here hx rfl (hb hby at_174) rfl rfl ?_
    refine XS.iconst X66.here hx rfl (hb hby at_175) ?_
    refine X66.ldc2DoubleC hx hown (mvT hZ (hw _ (List.mem_of_getElem? (i := 6) rfl))) (g := (mkF m 176 #[.val (.int vp), .val (.int vd), .val (.int vx), .val (.int vy), .val (.int vk), .val (.int vpl), .val (.int vdw), .val (.double dpt), .second, .val (.double da), .second, .val (.double db), .second, .val (.ref b11), .unset, .unset, .unset, .unset, .unset] [(.int (1 : Int32)), (.ref b62), (.ref b62)])) rfl (hb hby at_176) _ ?_
    show Steps p.tables e below (T66.setTop (mkF m 179 #[.val (.int vp), .val (.int vd), .val (.int vx), .val (.int vy), .val (.int vk), .val (.int vpl), .val (.int vdw), .val (.double dpt), .second, .val (.double da), .second, .val (.double db), .second, .val (.ref b11), .unset, .unset, .unset, .unset, .unset] [(.double (4636807660098813952 : UInt64)), (.int (1 : Int32)), (.ref b62), (.ref b62)])) _
    refine st69 _ ?_
    refine XS.dup X69.here hx rfl (hb hby at_180) rfl rfl ?_
    refine XS.iconst X69.here hx rfl (hb hby at_181) ?_
    refine X69.ldc2DoubleC hx hown (mvT hZ (hw _ (List.mem_of_getElem? (i := 7) rfl))) (g := (mkF m 182 #[.val (.int vp), .val (.int vd), .val (.int vx), .val (.int vy), .val (.int vk), .val (.int vpl), .val (.int vdw), .val (.double dpt), .second, .val (.double da), .second, .val (.double db), .second, .val (.ref b11), .unset, .unset, .unset, .unset, .unset] [(.int (2 : Int32)), (.ref b62), (.ref b62)])) rfl (hb hby at_182) _ ?_
    refine st72 _ ?_
    show Steps p.tables e below (T72.setTop (mkF m 186 #[.val (.int vp), .val (.int vd), .val (.int vx), .val (.int vy), .val (.int vk), .val (.int vpl), .val (.int vdw), .val (.double dpt), .second, .val (.double da), .second, .val (.double db), .second, .val (.ref b11), .unset, .unset, .unset, .unset, .unset] [(.ref b62)])) _
    refine XS.dup X72.here hx rfl (hb hby at_186) rfl rfl ?_
    refine XS.iconst X72.here hx rfl (hb hby at_187) ?_
    refine X72.ldc2DoubleC hx hown (mvT hZ (hw _ (List.mem_of_getElem? (i := 8) rfl))) (g := (mkF m 188 #[.val (.int vp), .val (.int vd), .val (.int vx), .val (.int vy), .val (.int vk), .val (.int vpl), .val (.int vdw), .val (.double dpt), .second, .val (.double da), .second, .val (.double db), .second, .val (.ref b11), .unset, .unset, .unset, .unset, .unset] [(.int (3 : Int32)), (.ref b62), (.ref b62)])) rfl (hb hby at_188) _ ?_
    refine st75 _ ?_
    refine XS.dup X75.here hx rfl (hb hby at_192) rfl rfl ?_
    show Steps p.tables e below (T75.setTop (mkF m 193 #[.val (.int vp), .val (.int vd), .val (.int vx), .val (.int vy), .val (.int vk), .val (.int vpl), .val (.int vdw), .val (.double dpt), .second, .val (.double da), .second, .val (.double db), .second, .val (.ref b11), .unset, .unset, .unset, .unset, .unset] [(.ref b62), (.ref b62)])) _
    refine XS.iconst X75.here hx rfl (hb hby at_193) ?_
    refine X75.ldc2DoubleC hx hown (mvT hZ (hw _ (List.mem_of_getElem? (i := 9) rfl))) (g := (mkF m 194 #[.val (.int vp), .val (.int vd), .val (.int vx), .val (.int vy), .val (.int vk), .val (.int vpl), .val (.int vdw), .val (.double dpt), .second, .val (.double da), .second, .val (.double db), .second, .val (.ref b11), .unset, .unset, .unset, .unset, .unset] [(.int (4 : Int32)), (.ref b62), (.ref b62)])) rfl (hb hby at_194) _ ?_
    refine st78 _ ?_
    refine XS.dup X78.here hx rfl (hb hby at_198) rfl rfl ?_
    refine XS.iconst X78.here hx rfl (hb hby at_199) ?_
    show Steps p.tables e below (T78.setTop (mkF m 200 #[.val (.int vp), .val (.int vd), .val (.int vx), .val (.int vy), .val (.int vk), .val (.int vpl), .val (.int vdw), .val (.double dpt), .second, .val (.double da), .second, .val (.double db), .second, .val (.ref b11), .unset, .unset, .unset, .unset, .unset] [(.int (5 : Int32)), (.ref b62), (.ref b62)])) _
    refine X78.ldc2DoubleC hx hown (mvT hZ (hw _ (List.mem_of_getElem? (i := 10) rfl))) (g := (mkF m 200 #[.val (.int vp), .val (.int vd), .val (.int vx), .val (.int vy), .val (.int vk), .val (.int vpl), .val (.int vdw), .val (.double dpt), .second, .val (.double da), .second, .val (.double db), .second, .val (.ref b11), .unset, .unset, .unset, .unset, .unset] [(.int (5 : Int32)), (.ref b62), (.ref b62)])) rfl (hb hby at_200) _ ?_
    refine st81 _ ?_
    refine XS.dup X81.here hx rfl (hb hby at_204) rfl rfl ?_
    refine XS.bipush X81.here hx rfl (hb hby at_205) ?_
    refine X81.ldc2DoubleC hx hown (mvT hZ (hw _ (List.mem_of_getElem? (i := 11) rfl))) (g := (mkF m 207 #[.val (.int vp), .val (.int vd), .val (.int vx), .val (.int vy), .val (.int vk), .val (.int vpl), .val (.int vdw), .val (.double dpt), .second, .val (.double da), .second, .val (.double db), .second, .val (.ref b11), .unset, .unset, .unset, .unset, .unset] [(.int (6 : Int32)), (.ref b62), (.ref b62)])) rfl (hb hby at_207) _ ?_
    show Steps p.tables e below (T81.setTop (mkF m 210 #[.val (.int vp), .val (.int vd), .val (.int vx), .val (.int vy), .val (.int vk), .val (.int vpl), .val (.int vdw), .val (.double dpt), .second, .val (.double da), .second, .val (.double db), .second, .val (.ref b11), .unset, .unset, .unset, .unset, .unset] [(.double (4637159503819702272 : UInt64)), (.int (6 : Int32)), (.ref b62), (.ref b62)])) _
    refine st84 _ ?_
    refine XS.dup X84.here hx rfl (hb hby at_211) rfl rfl ?_
    refine XS.bipush X84.here hx rfl (hb hby at_212) ?_
    refine X84.ldc2DoubleC hx hown (mvT hZ (hw _ (List.mem_of_getElem? (i := 12) rfl))) (g := (mkF m 214 #[.val (.int vp), .val (.int vd), .val (.int vx), .val (.int vy), .val (.int vk), .val (.int vpl), .val (.int vdw), .val (.double dpt), .second, .val (.double da), .second, .val (.double db), .second, .val (.ref b11), .unset, .unset, .unset, .unset, .unset] [(.int (7 : Int32)), (.ref b62), (.ref b62)])) rfl (hb hby at_214) _ ?_
    refine st87 _ ?_
    show Steps p.tables e below (T87.setTop (mkF m 218 #[.val (.int vp), .val (.int vd), .val (.int vx), .val (.int vy), .val (.int vk), .val (.int vpl), .val (.int vdw), .val (.double dpt), .second, .val (.double da), .second, .val (.double db), .second, .val (.ref b11), .unset, .unset, .unset, .unset, .unset] [(.ref b62)])) _
    refine XS.dup X87.here hx rfl (hb hby at_218) rfl rfl ?_
    refine XS.bipush X87.here hx rfl (hb hby at_219) ?_
    refine X87.ldc2DoubleC hx hown (mvT hZ (hw _ (List.mem_of_getElem? (i := 13) rfl))) (g := (mkF m 221 #[.val (.int vp), .val (.int vd), .val (.int vx), .val (.int vy), .val (.int vk), .val (.int vpl), .val (.int vdw), .val (.double dpt), .second, .val (.double da), .second, .val (.double db), .second, .val (.ref b11), .unset, .unset, .unset, .unset, .unset] [(.int (8 : Int32)), (.ref b62), (.ref b62)])) rfl (hb hby at_221) _ ?_
    refine st90 _ ?_
    refine XS.dup X90.here hx rfl (hb hby at_225) rfl rfl ?_
    show Steps p.tables e below (T90.setTop (mkF m 226 #[.val (.int vp), .val (.int vd), .val (.int vx), .val (.int vy), .val (.int vk), .val (.int vpl), .val (.int vdw), .val (.double dpt), .second, .val (.double da), .second, .val (.double db), .second, .val (.ref b11), .unset, .unset, .unset, .unset, .unset] [(.ref b62), (.ref b62)])) _
    refine XS.bipush X90.here hx rfl (hb hby at_226) ?_
    refine X90.ldc2DoubleC hx hown (mvT hZ (hw _ (List.mem_of_getElem? (i := 14) rfl))) (g := (mkF m 228 #[.val (.int vp), .val (.int vd), .val (.int vx), .val (.int vy), .val (.int vk), .val (.int vpl), .val (.int vdw), .val (.double dpt), .second, .val (.double da), .second, .val (.double db), .second, .val (.ref b11), .unset, .unset, .unset, .unset, .unset] [(.int (9 : Int32)), (.ref b62), (.ref b62)])) rfl (hb hby at_228) _ ?_
    refine st93 _ ?_
    refine XS.dup X93.here hx rfl (hb hby at_232) rfl rfl ?_
    refine XS.bipush X93.here hx rfl (hb hby at_233) ?_
    show Steps p.tables e below (T93.setTop (mkF m 235 #[.val (.int vp), .val (.int vd), .val (.int vx), .val (.int vy), .val (.int vk), .val (.int vpl), .val (.int vdw), .val (.double dpt), .second, .val (.double da), .second, .val (.double db), .second, .val (.ref b11), .unset, .unset, .unset, .unset, .unset] [(.int (10 : Int32)), (.ref b62), (.ref b62)])) _
    refine X93.ldc2DoubleC hx hown (mvT hZ (hw _ (List.mem_of_getElem? (i := 15) rfl))) (g := (mkF m 235 #[.val (.int vp), .val (.int vd), .val (.int vx), .val (.int vy), .val (.int vk), .val (.int vpl), .val (.int vdw), .val (.double dpt), .second, .val (.double da), .second, .val (.double db), .second, .val (.ref b11), .unset, .unset, .unset, .unset, .unset] [(.int (10 : Int32)), (.ref b62), (.ref b62)])) rfl (hb hby at_235) _ ?_
    refine st96 _ ?_
    refine XS.dup X96.here hx rfl (hb hby at_239) rfl rfl ?_
    refine XS.bipush X96.here hx rfl (hb hby at_240) ?_
    refine X96.ldc2DoubleC hx hown (mvT hZ (hw _ (List.mem_of_getElem? (i := 16) rfl))) (g := (mkF m 242 #[.val (.int vp), .val (.int vd), .val (.int vx), .val (.int vy), .val (.int vk), .val (.int vpl), .val (.int vdw), .val (.double dpt), .second, .val (.double da), .second, .val (.double db), .second, .val (.ref b11), .unset, .unset, .unset, .unset, .unset] [(.int (11 : Int32)), (.ref b62), (.ref b62)])) rfl (hb hby at_242) _ ?_
    show Steps p.tables e below (T96.setTop (mkF m 245 #[.val (.int vp), .val (.int vd), .val (.int vx), .val (.int vy), .val (.int vk), .val (.int vpl), .val (.int vdw), .val (.double dpt), .second, .val (.double da), .second, .val (.double db), .second, .val (.ref b11), .unset, .unset, .unset, .unset, .unset] [(.double (4637511347540590592 : UInt64)), (.int (11 : Int32)), (.ref b62), (.ref b62)])) _
    refine st99 _ ?_
    refine XS.dup X99.here hx rfl (hb hby at_246) rfl rfl ?_
    refine XS.bipush X99.here hx rfl (hb hby at_247) ?_
    refine X99.ldc2DoubleC hx hown (mvT hZ (hw _ (List.mem_of_getElem? (i := 17) rfl))) (g := (mkF m 249 #[.val (.int vp), .val (.int vd), .val (.int vx), .val (.int vy), .val (.int vk), .val (.int vpl), .val (.int vdw), .val (.double dpt), .second, .val (.double da), .second, .val (.double db), .second, .val (.ref b11), .unset, .unset, .unset, .unset, .unset] [(.int (12 : Int32)), (.ref b62), (.ref b62)])) rfl (hb hby at_249) _ ?_
    refine st102 _ ?_
    show Steps p.tables e below (T102.setTop (mkF m 253 #[.val (.int vp), .val (.int vd), .val (.int vx), .val (.int vy), .val (.int vk), .val (.int vpl), .val (.int vdw), .val (.double dpt), .second, .val (.double da), .second, .val (.double db), .second, .val (.ref b11), .unset, .unset, .unset, .unset, .unset] [(.ref b62)])) _
    refine XS.dup X102.here hx rfl (hb hby at_253) rfl rfl ?_
    refine XS.bipush X102.here hx rfl (hb hby at_254) ?_
    refine X102.ldc2DoubleC hx hown (mvT hZ (hw _ (List.mem_of_getElem? (i := 18) rfl))) (g := (mkF m 256 #[.val (.int vp), .val (.int vd), .val (.int vx), .val (.int vy), .val (.int vk), .val (.int vpl), .val (.int vdw), .val (.double dpt), .second, .val (.double da), .second, .val (.double db), .second, .val (.ref b11), .unset, .unset, .unset, .unset, .unset] [(.int (13 : Int32)), (.ref b62), (.ref b62)])) rfl (hb hby at_256) _ ?_
    refine st105 _ ?_
    refine XS.dup X105.here hx rfl (hb hby at_260) rfl rfl ?_
    show Steps p.tables e below (T105.setTop (mkF m 261 #[.val (.int vp), .val (.int vd), .val (.int vx), .val (.int vy), .val (.int vk), .val (.int vpl), .val (.int vdw), .val (.double dpt), .second, .val (.double da), .second, .val (.double db), .second, .val (.ref b11), .unset, .unset, .unset, .unset, .unset] [(.ref b62), (.ref b62)])) _
    refine XS.bipush X105.here hx rfl (hb hby at_261) ?_
    refine X105.ldc2DoubleC hx hown (mvT hZ (hw _ (List.mem_of_getElem? (i := 19) rfl))) (g := (mkF m 263 #[.val (.int vp), .val (.int vd), .val (.int vx), .val (.int vy), .val (.int vk), .val (.int vpl), .val (.int vdw), .val (.double dpt), .second, .val (.double da), .second, .val (.double db), .second, .val (.ref b11), .unset, .unset, .unset, .unset, .unset] [(.int (14 : Int32)), (.ref b62), (.ref b62)])) rfl (hb hby at_263) _ ?_
    refine st108 _ ?_
    refine XS.dup X108.here hx rfl (hb hby at_267) rfl rfl ?_
    refine XS.bipush X108.here hx rfl (hb hby at_268) ?_
    show Steps p.tables e below (T108.setTop (mkF m 270 #[.val (.int vp), .val (.int vd), .val (.int vx), .val (.int vy), .val (.int vk), .val (.int vpl), .val (.int vdw), .val (.double dpt), .second, .val (.double da), .second, .val (.double db), .second, .val (.ref b11), .unset, .unset, .unset, .unset, .unset] [(.int (15 : Int32)), (.ref b62), (.ref b62)])) _
    refine X108.ldc2DoubleC hx hown (mvT hZ (hw _ (List.mem_of_getElem? (i := 20) rfl))) (g := (mkF m 270 #[.val (.int vp), .val (.int vd), .val (.int vx), .val (.int vy), .val (.int vk), .val (.int vpl), .val (.int vdw), .val (.double dpt), .second, .val (.double da), .second, .val (.double db), .second, .val (.ref b11), .unset, .unset, .unset, .unset, .unset] [(.int (15 : Int32)), (.ref b62), (.ref b62)])) rfl (hb hby at_270) _ ?_
    refine st111 _ ?_
    refine XS.astore X111.here hx rfl (hb hby at_274) rfl rfl (l' := #[.val (.int vp), .val (.int vd), .val (.int vx), .val (.int vy), .val (.int vk), .val (.int vpl), .val (.int vdw), .val (.double dpt), .second, .val (.double da), .second, .val (.double db), .second, .val (.ref b11), .val (.ref b62), .unset, .unset, .unset, .unset]) rfl ?_
    refine XS.aload X111.here hx rfl (hb hby at_276) rfl rfl ?_
    refine XS.iload X111.here hx rfl (hb hby at_278) rfl ?_
    show Steps p.tables e below (T111.setTop (mkF m 280 #[.val (.int vp), .val (.int vd), .val (.int vx), .val (.int vy), .val (.int vk), .val (.int vpl), .val (.int vdw), .val (.double dpt), .second, .val (.double da), .second, .val (.double db), .second, .val (.ref b11), .val (.ref b62), .unset, .unset, .unset, .unset] [(.int vpl), (.ref b11)])) _
    refine XS.iload X111.here hx rfl (hb hby at_280) rfl ?_
    refine XS.iadd X111.here hx rfl (hb hby at_282) rfl ?_
    refine XS.dload X111.here hx rfl (hb hby at_283) rfl ?_
    refine st116 _ ?_
    refine XS.aload X116.here hx rfl (hb hby at_286) rfl rfl ?_
    show Steps p.tables e below (T116.setTop (mkF m 288 #[.val (.int vp), .val (.int vd), .val (.int vx), .val (.int vy), .val (.int vk), .val (.int vpl), .val (.int vdw), .val (.double dpt), .second, .val (.double da), .second, .val (.double db), .second, .val (.ref b11), .val (.ref b62), .unset, .unset, .unset, .unset] [(.ref b62)])) _
    refine XS.iload X116.here hx rfl (hb hby at_288) rfl ?_
    refine XS.iload X116.here hx rfl (hb hby at_290) rfl ?_
    refine XS.iadd X116.here hx rfl (hb hby at_292) rfl ?_
    refine XS.dload X116.here hx rfl (hb hby at_293) rfl ?_
    refine st120 _ ?_
    show Steps p.tables e below (T120.setTop (mkF m 296 #[.val (.int vp), .val (.int vd), .val (.int vx), .val (.int vy), .val (.int vk), .val (.int vpl), .val (.int vdw), .val (.double dpt), .second, .val (.double da), .second, .val (.double db), .second, .val (.ref b11), .val (.ref b62), .unset, .unset, .unset, .unset] [])) _
    refine XS.aload X120.here hx rfl (hb hby at_296) rfl rfl ?_
    refine XS.iload X120.here hx rfl (hb hby at_298) rfl ?_
    refine XS.bipush X120.here hx rfl (hb hby at_300) ?_
    refine XS.iadd X120.here hx rfl (hb hby at_302) rfl ?_
    refine XS.dload X120.here hx rfl (hb hby at_303) rfl ?_
    show Steps p.tables e below (T120.setTop (mkF m 305 #[.val (.int vp), .val (.int vd), .val (.int vx), .val (.int vy), .val (.int vk), .val (.int vpl), .val (.int vdw), .val (.double dpt), .second, .val (.double da), .second, .val (.double db), .second, .val (.ref b11), .val (.ref b62), .unset, .unset, .unset, .unset] [(.double db), (.int (vpl + (6 : Int32))), (.ref b11)])) _
    refine st124 _ ?_
    refine XS.aload X124.here hx rfl (hb hby at_306) rfl rfl ?_
    refine XS.iload X124.here hx rfl (hb hby at_308) rfl ?_
    refine XS.bipush X124.here hx rfl (hb hby at_310) ?_
    refine XS.iadd X124.here hx rfl (hb hby at_312) rfl ?_
    show Steps p.tables e below (T124.setTop (mkF m 313 #[.val (.int vp), .val (.int vd), .val (.int vx), .val (.int vy), .val (.int vk), .val (.int vpl), .val (.int vdw), .val (.double dpt), .second, .val (.double da), .second, .val (.double db), .second, .val (.ref b11), .val (.ref b62), .unset, .unset, .unset, .unset] [(.int (vpl + (6 : Int32))), (.ref b62)])) _
    refine XS.dload X124.here hx rfl (hb hby at_313) rfl ?_
    refine st128 _ ?_
    refine XS.aload X128.here hx rfl (hb hby at_316) rfl rfl ?_
    refine XS.iload X128.here hx rfl (hb hby at_318) rfl ?_
    refine XS.iload X128.here hx rfl (hb hby at_320) rfl ?_
    show Steps p.tables e below (T128.setTop (mkF m 322 #[.val (.int vp), .val (.int vd), .val (.int vx), .val (.int vy), .val (.int vk), .val (.int vpl), .val (.int vdw), .val (.double dpt), .second, .val (.double da), .second, .val (.double db), .second, .val (.ref b11), .val (.ref b62), .unset, .unset, .unset, .unset] [(.int vdw), (.int vpl), (.ref b11)])) _
    refine XS.dload X128.here hx rfl (hb hby at_322) rfl ?_
    exact kt
  by_cases hd6 : dn = 6
  · have own_m6 := True.intro
    have f132 := ((((((((((((((((((((((((((((((((((((((O0.ext E11).wr W14 g_b11).wr W17 g_b11).wr W20 g_b11).wr W23 g_b11).wr W26 g_b11).wr W29 g_b11).wr W32 g_b11).wr W35 g_b11).wr W38 g_b11).wr W41 g_b11).wr W44 g_b11).wr W47 g_b11).wr W50 g_b11).wr W53 g_b11).wr W56 g_b11).wr W59 g_b11).ext E62).wr W66 g_b62).wr W69 g_b62).wr W72 g_b62).wr W75 g_b62).wr W78 g_b62).wr W81 g_b62).wr W84 g_b62).wr W87 g_b62).wr W90 g_b62).wr W93 g_b62).wr W96 g_b62).wr W99 g_b62).wr W102 g_b62).wr W105 g_b62).wr W108 g_b62).wr W111 g_b62).wr W116 g_b11).wr W120 g_b62).wr W124 g_b11).wr W128 g_b62)
    have sd133 := Sd.ext ⟨by have q1 := f132.1; have q2 := f132.2.1; omega, f132.2.2⟩
    have hl1 : ((own_L0.set (pn + dn) (.double da)).set (pn + 6) (.double db)).length = 16 := by
      simp only [List.length_set]; rfl
    have f134 := (V124.other W128 ne_b11_b62)
    obtain ⟨_, _, ⟨T131, L131, k131, n131⟩, -, X131, ⟨Lc131, hQ131, l131, y131, z131⟩, st131⟩ := Jvm.LawKit.callS X128 hx (y := (⟨"com/example/mod7/mod7/regressors/DayCounts", "move", "([DIID)D"⟩ : MethodName)) hown (mvT hZ (hw _ (List.mem_of_getElem? (i := 21) rfl))) (mvT hZ (hw _ (List.mem_of_getElem? (i := 22) rfl))) (mvT hZ (hw _ (List.mem_of_getElem? (i := 23) rfl))) (mvT hZ (hw _ (List.mem_of_getElem? (i := 24) rfl))) (by decide) (backOf (W := 0) (rm_mv6 l Z a0 hw [] b11 vpl vdw dpt k11 ((own_L0.set (pn + dn) (.double da)).set (pn + 6) (.double db)) pn dn h128 n0 Zs129 f134 hl1 hpn hdn hp7 hd8 sd133 hd6) hZ (hw _ (List.mem_of_getElem? (i := 24) rfl)) (hw _ (List.mem_of_getElem? (i := 23) rfl)) (by decide) (by decide)) (g := (mkF m 324 #[.val (.int vp), .val (.int vd), .val (.int vx), .val (.int vy), .val (.int vk), .val (.int vpl), .val (.int vdw), .val (.double dpt), .second, .val (.double da), .second, .val (.double db), .second, .val (.ref b11), .val (.ref b62), .unset, .unset, .unset, .unset] [(.double dpt), (.int vdw), (.int vpl), (.ref b11)])) rfl (by rw [hml]; rfl) (argsL := [(.ref b11), (.int vpl), (.int vdw), (.double dpt)]) (rest := []) (lenOf pd_0 rfl) rfl (by show 2 * 0 + _ ≤ _; exact Nat.le_of_eq rfl) (hb hby at_324) (fun _ _ => ⟨rfl, e128, (by decide : 2 + 0 ≤ _), (by decide : 32 + 0 ≤ _)⟩)
    dsimp only [Pt.U, Pt.locs, Pt.cells, Pt.slots] at X131 l131 y131 z131 st131 hQ131
    rw [l131, y131, z131] at X131
    obtain ⟨dr, rfl, hdr, N131q, e131⟩ := hQ131
    have N131 := Fr.app N128 N131q
    have pre135 : ∀ t, Steps p.tables e below (T131.setTop (mkF m 327 #[.val (.int vp), .val (.int vd), .val (.int vx), .val (.int vy), .val (.int vk), .val (.int vpl), .val (.int vdw), .val (.double dpt), .second, .val (.double da), .second, .val (.double db), .second, .val (.ref b11), .val (.ref b62), .unset, .unset, .unset, .unset] [(.double dr)])) t → Steps p.tables e below (s₁.setTop (entryFrame m #[(.int vp), (.int vd), (.int vx), (.int vy), (.int vk)] maxLocals)) t := fun t kt => by
      refine pre130 _ ?_
      refine st131 _ ?_
      exact kt
    subst hdr
    have pre136 : ∀ t, Steps p.tables e below (T131.setTop (mkF m 327 #[.val (.int vp), .val (.int vd), .val (.int vx), .val (.int vy), .val (.int vk), .val (.int vpl), .val (.int vdw), .val (.double dpt), .second, .val (.double da), .second, .val (.double db), .second, .val (.ref b11), .val (.ref b62), .unset, .unset, .unset, .unset] [(.double (0 : UInt64))])) t → Steps p.tables e below (s₁.setTop (entryFrame m #[(.int vp), (.int vd), (.int vx), (.int vy), (.int vk)] maxLocals)) t := pre135
    have hc333_137 : vdw.toInt = (6 : Int) := by omega
    have hc377_138 : (0 : Int) = (0 : Int) := by decide
    have ok1 : own_ok ((own_L0.set (pn + dn) (.double da)).set (pn + 6) (.double db)) := by
      refine own_ok_set (own_ok_set own_ok0 rfl _ _ nda) ?_ _ _ ndb
      simp only [List.length_set]; rfl
    obtain ⟨_, _, ⟨T139, L139, k139, n139⟩, -, X139, ⟨Lc139, hQ139, l139, y139, z139⟩, st139⟩ := Jvm.LawKit.callS X131 hx (y := (⟨"com/example/mod7/mod7/regressors/DayCountsMovePinLaw", "same", "([D[D)Z"⟩ : MethodName)) hown (mvT hZ (hw _ (List.mem_of_getElem? (i := 27) rfl))) (mvT hZ (hw _ (List.mem_of_getElem? (i := 28) rfl))) (mvT hZ (hw _ (List.mem_of_getElem? (i := 29) rfl))) (mvT hZ (hw _ (List.mem_of_getElem? (i := 30) rfl))) (by decide) (backOf (W := 0) (rm2 l Z a0 hw [] b11 b62 k11 k62 ((own_L0.set (pn + dn) (.double da)).set (pn + 6) (.double db)) h128 n0 Zs129 f134 V128 ok1) hZ (hw _ (List.mem_of_getElem? (i := 30) rfl)) (hw _ (List.mem_of_getElem? (i := 29) rfl)) (by decide) (by decide)) (g := (mkF m 384 #[.val (.int vp), .val (.int vd), .val (.int vx), .val (.int vy), .val (.int vk), .val (.int vpl), .val (.int vdw), .val (.double dpt), .second, .val (.double da), .second, .val (.double db), .second, .val (.ref b11), .val (.ref b62), .val (.double (0 : UInt64)), .second, .val (.double (0 : UInt64)), .second] [(.ref b62), (.ref b11)])) rfl (by rw [hml]; rfl) (argsL := [(.ref b11), (.ref b62)]) (rest := []) (lenOf pd_1 rfl) rfl (by show 2 * 0 + _ ≤ _; exact Nat.le_of_eq rfl) (hb hby at_384) (fun _ _ => ⟨rfl, e131, (by decide : 2 + 0 ≤ _), (by decide : 32 + 0 ≤ _)⟩)
    dsimp only [Pt.U, Pt.locs, Pt.cells, Pt.slots] at X139 l139 y139 z139 st139 hQ139
    rw [l139, y139, z139] at X139
    obtain ⟨zs, rfl, hzs, N139q, e139⟩ := hQ139
    have N139 := Fr.app N131 N139q
    have pre140 : ∀ t, Steps p.tables e below (T139.setTop (mkF m 387 #[.val (.int vp), .val (.int vd), .val (.int vx), .val (.int vy), .val (.int vk), .val (.int vpl), .val (.int vdw), .val (.double dpt), .second, .val (.double da), .second, .val (.double db), .second, .val (.ref b11), .val (.ref b62), .val (.double (0 : UInt64)), .second, .val (.double (0 : UInt64)), .second] [(.int zs)])) t → Steps p.tables e below (s₁.setTop (entryFrame m #[(.int vp), (.int vd), (.int vx), (.int vy), (.int vk)] maxLocals)) t := fun t kt => by
      refine pre136 _ ?_
      refine XS.dstore X131.here hx rfl (hb hby at_327) rfl (l' := #[.val (.int vp), .val (.int vd), .val (.int vx), .val (.int vy), .val (.int vk), .val (.int vpl), .val (.int vdw), .val (.double dpt), .second, .val (.double da), .second, .val (.double db), .second, .val (.ref b11), .val (.ref b62), .val (.double (0 : UInt64)), .second, .unset, .unset]) rfl ?_
      refine XS.iload X131.here hx rfl (hb hby at_329) rfl ?_
      refine XS.bipush X131.here hx rfl (hb hby at_331) ?_
      show Steps p.tables e below (T131.setTop (mkF m 333 #[.val (.int vp), .val (.int vd), .val (.int vx), .val (.int vy), .val (.int vk), .val (.int vpl), .val (.int vdw), .val (.double dpt), .second, .val (.double da), .second, .val (.double db), .second, .val (.ref b11), .val (.ref b62), .val (.double (0 : UInt64)), .second, .unset, .unset] [(.int (6 : Int32)), (.int vdw)])) _
      refine XS.icmpNo X131.here hx rfl (hb hby at_333) rfl (own_teq (a := vdw) (b := (6 : Int32)) rfl (by decide) hc333_137).2 ?_
      refine XS.dconst0 X131.here hx rfl (hb hby at_336) (v := (0 : UInt64)) (by decide) ?_
      refine XS.dstore X131.here hx rfl (hb hby at_337) rfl (l' := #[.val (.int vp), .val (.int vd), .val (.int vx), .val (.int vy), .val (.int vk), .val (.int vpl), .val (.int vdw), .val (.double dpt), .second, .val (.double da), .second, .val (.double db), .second, .val (.ref b11), .val (.ref b62), .val (.double (0 : UInt64)), .second, .val (.double (0 : UInt64)), .second]) rfl ?_
      refine XS.goto X131.here hx rfl (pc0 := 339) (pc' := 372) rfl (hb hby at_339) (by decide) (by decide) ?_
      refine XS.dload X131.here hx rfl (hb hby at_372) rfl ?_
      show Steps p.tables e below (T131.setTop (mkF m 374 #[.val (.int vp), .val (.int vd), .val (.int vx), .val (.int vy), .val (.int vk), .val (.int vpl), .val (.int vdw), .val (.double dpt), .second, .val (.double da), .second, .val (.double db), .second, .val (.ref b11), .val (.ref b62), .val (.double (0 : UInt64)), .second, .val (.double (0 : UInt64)), .second] [(.double (0 : UInt64))])) _
      refine XS.dload X131.here hx rfl (hb hby at_374) rfl ?_
      refine XS.dcmpS X131.here hx rfl (hb hby at_376) rfl (dcmpV_self (by unfold NoNaN64; decide) .l) ?_
      refine XS.ifNo X131.here hx rfl (hb hby at_377) rfl (own_if (own_teq (a := (0 : Int32)) (b := (0 : Int32)) (by decide) (by decide) hc377_138).2) ?_
      refine XS.aload X131.here hx rfl (hb hby at_380) rfl rfl ?_
      refine XS.aload X131.here hx rfl (hb hby at_382) rfl rfl ?_
      show Steps p.tables e below (T131.setTop (mkF m 384 #[.val (.int vp), .val (.int vd), .val (.int vx), .val (.int vy), .val (.int vk), .val (.int vpl), .val (.int vdw), .val (.double dpt), .second, .val (.double da), .second, .val (.double db), .second, .val (.ref b11), .val (.ref b62), .val (.double (0 : UInt64)), .second, .val (.double (0 : UInt64)), .second] [(.ref b62), (.ref b11)])) _
      refine st139 _ ?_
      exact kt
    subst hzs
    have pre141 : ∀ t, Steps p.tables e below (T139.setTop (mkF m 387 #[.val (.int vp), .val (.int vd), .val (.int vx), .val (.int vy), .val (.int vk), .val (.int vpl), .val (.int vdw), .val (.double dpt), .second, .val (.double da), .second, .val (.double db), .second, .val (.ref b11), .val (.ref b62), .val (.double (0 : UInt64)), .second, .val (.double (0 : UInt64)), .second] [(.int (1 : Int32))])) t → Steps p.tables e below (s₁.setTop (entryFrame m #[(.int vp), (.int vd), (.int vx), (.int vy), (.int vk)] maxLocals)) t := pre140
    have hc387_142 : ¬ ((1 : Int) = (0 : Int)) := by decide
    obtain ⟨fs, hr, hrun, hended, hW, hsame⟩ := X139.leave (v := some (.int (1 : Int32))) (fun h => by rw [Bd.returns] at h; cases h)
    refine ⟨_, _, pre141 _ ?_, hrun, hended, _, _, rfl, ?_, ⟨_, rfl⟩, hW, hsame.mono (by decide) (by decide)⟩
    · refine XS.ifNo X139.here hx rfl (hb hby at_387) rfl (own_if (own_feq (a := (1 : Int32)) (b := (0 : Int32)) (by decide) (by decide) hc387_142).1) ?_
      refine XS.iconst X139.here hx rfl (hb hby at_390) ?_
      refine XS.goto X139.here hx rfl (pc0 := 391) (pc' := 395) rfl (hb hby at_391) (by decide) (by decide) ?_
      exact retN X139 hx (t := .boolean) Bd.returns (by simp) (hb hby at_395) hr
    · show Q0 Z vp vd vx vy vk h0 n0 _ T139.heap _
      rw [e139]
      exact ⟨rfl, N139⟩
  · have md := dsub_mag mda (mdpt.mono (by omega)) (by omega)
    have ms := dadd_mag mdb (mdpt.mono (by omega)) (by omega)
    have nd := own_mag md (by omega)
    have ns := own_mag ms (by omega)
    have f144 := ((((((((((((((((((((((((((((((((((((((O0.ext E11).wr W14 g_b11).wr W17 g_b11).wr W20 g_b11).wr W23 g_b11).wr W26 g_b11).wr W29 g_b11).wr W32 g_b11).wr W35 g_b11).wr W38 g_b11).wr W41 g_b11).wr W44 g_b11).wr W47 g_b11).wr W50 g_b11).wr W53 g_b11).wr W56 g_b11).wr W59 g_b11).ext E62).wr W66 g_b62).wr W69 g_b62).wr W72 g_b62).wr W75 g_b62).wr W78 g_b62).wr W81 g_b62).wr W84 g_b62).wr W87 g_b62).wr W90 g_b62).wr W93 g_b62).wr W96 g_b62).wr W99 g_b62).wr W102 g_b62).wr W105 g_b62).wr W108 g_b62).wr W111 g_b62).wr W116 g_b11).wr W120 g_b62).wr W124 g_b11).wr W128 g_b62)
    have sd145 := Sd.ext ⟨by have q1 := f144.1; have q2 := f144.2.1; omega, f144.2.2⟩
    have hl1 : ((own_L0.set (pn + dn) (.double da)).set (pn + 6) (.double db)).length = 16 := by
      simp only [List.length_set]; rfl
    have f146 := (V124.other W128 ne_b11_b62)
    have ga1 : ((own_L0.set (pn + dn) (.double da)).set (pn + 6) (.double db)).getD (pn + dn) (.double (0 : UInt64)) = .double da := by
      rw [own_set_ne _ _ _ _ _ (by omega)]; exact own_set_eq _ _ _ _ (by show _ < 16; omega)
    have gb1 : ((own_L0.set (pn + dn) (.double da)).set (pn + 6) (.double db)).getD (pn + 6) (.double (0 : UInt64)) = .double db := own_set_eq _ _ _ _ (by
      simp only [List.length_set]; show _ < 16; omega)
    obtain ⟨_, _, ⟨T143, L143, k143, n143⟩, -, X143, ⟨Lc143, hQ143, l143, y143, z143⟩, st143⟩ := Jvm.LawKit.callS X128 hx (y := (⟨"com/example/mod7/mod7/regressors/DayCounts", "move", "([DIID)D"⟩ : MethodName)) hown (mvT hZ (hw _ (List.mem_of_getElem? (i := 21) rfl))) (mvT hZ (hw _ (List.mem_of_getElem? (i := 22) rfl))) (mvT hZ (hw _ (List.mem_of_getElem? (i := 23) rfl))) (mvT hZ (hw _ (List.mem_of_getElem? (i := 24) rfl))) (by decide) (backOf (W := 0) (rm_mv l Z a0 hw [] b11 vpl vdw dpt k11 ((own_L0.set (pn + dn) (.double da)).set (pn + 6) (.double db)) pn dn da db h128 n0 Zs129 f146 hl1 hpn hdn hp7 hd8 sd145 hd6 ga1 gb1 nd ns g_b11) hZ (hw _ (List.mem_of_getElem? (i := 24) rfl)) (hw _ (List.mem_of_getElem? (i := 23) rfl)) (by decide) (by decide)) (g := (mkF m 324 #[.val (.int vp), .val (.int vd), .val (.int vx), .val (.int vy), .val (.int vk), .val (.int vpl), .val (.int vdw), .val (.double dpt), .second, .val (.double da), .second, .val (.double db), .second, .val (.ref b11), .val (.ref b62), .unset, .unset, .unset, .unset] [(.double dpt), (.int vdw), (.int vpl), (.ref b11)])) rfl (by rw [hml]; rfl) (argsL := [(.ref b11), (.int vpl), (.int vdw), (.double dpt)]) (rest := []) (lenOf pd_0 rfl) rfl (by show 2 * 0 + _ ≤ _; exact Nat.le_of_eq rfl) (hb hby at_324) (fun _ _ => ⟨rfl, e128, (by decide : 2 + 0 ≤ _), (by decide : 32 + 0 ≤ _)⟩)
    dsimp only [Pt.U, Pt.locs, Pt.cells, Pt.slots] at X143 l143 y143 z143 st143 hQ143
    rw [l143, y143, z143] at X143
    obtain ⟨rfl, N143q, K143, V143⟩ := hQ143
    have N143 := Fr.app N128 N143q
    have Zs147 : n0 ≤ T143.heap.size := Nat.le_trans Zs129 K143.1
    have hc333_148 : ¬ (vdw.toInt = (6 : Int)) := by omega
    have f149 := (V128.keep K143 (ninS (Ne.symm ne_b11_b62) nin0))
    obtain ⟨cl150, Ar150, q150, S150, M150, H150, G150⟩ := id f149
    have hin150 : ¬ ((vpl + vdw) < 0 ∨ cl150.slots.size ≤ ((vpl + vdw)).toNatClampNeg) := inb_of S150 ⟨by rw [Int32.lt_iff_toInt_lt]; have k0 : (0 : Int32).toInt = 0 := (by decide); have := rng32 vpl; have := rng32 vdw; (first | (have : ((vpl + vdw)).toInt = vpl.toInt + vdw.toInt := (by have : (((vpl + vdw)).toInt - (vpl.toInt + vdw.toInt)) % 4294967296 = 0 := c_iadd vpl vdw; have := rng32 (vpl + vdw); omega)) | (have : (((vpl + vdw)).toInt - (vpl.toInt + vdw.toInt)) % 4294967296 = 0 := c_iadd vpl vdw; have := rng32 (vpl + vdw))); omega, by rw [Int32.lt_iff_toInt_lt]; have k0 : (16 : Int32).toInt = 16 := (by decide); have := rng32 vpl; have := rng32 vdw; (first | (have : ((vpl + vdw)).toInt = vpl.toInt + vdw.toInt := (by have : (((vpl + vdw)).toInt - (vpl.toInt + vdw.toInt)) % 4294967296 = 0 := c_iadd vpl vdw; have := rng32 (vpl + vdw); omega)) | (have : (((vpl + vdw)).toInt - (vpl.toInt + vdw.toInt)) % 4294967296 = 0 := c_iadd vpl vdw; have := rng32 (vpl + vdw))); omega⟩
    obtain ⟨T151, h151, X151, e151, W151, st151⟩ := stD X143 hx hZ rfl Ar150 (j := (vpl + vdw)) hin150 (g := (mkF m 354 #[.val (.int vp), .val (.int vd), .val (.int vx), .val (.int vy), .val (.int vk), .val (.int vpl), .val (.int vdw), .val (.double dpt), .second, .val (.double da), .second, .val (.double db), .second, .val (.ref b11), .val (.ref b62), .val (.double dpt), .second, .unset, .unset] [(.double (FP.dsub da dpt)), (.int (vpl + vdw)), (.ref b62)])) rfl rfl (hb hby at_354)
    have N151 := Fr.snoc X151 N143 g_b62
    have Zs152 : n0 ≤ h151.size := by rw [W151.size]; exact Zs147
    have V151 : Arv Z h151 b62 k62 .double (16 : Int32) (((own_L0.set (pn + dn) (.double da)).set (pn + 6) (.double db)).set (pn + dn) (.double (FP.dsub da dpt))) (.double (0 : UInt64)) := Arv.set Ar150 q150 S150 M150 H150 G150 rfl W151 (pn + dn) (own_nat (by push_cast; have := rng32 vpl; have := rng32 vdw; (first | (have : ((vpl + vdw)).toInt = vpl.toInt + vdw.toInt := (by have : (((vpl + vdw)).toInt - (vpl.toInt + vdw.toInt)) % 4294967296 = 0 := c_iadd vpl vdw; have := rng32 (vpl + vdw); omega)) | (have : (((vpl + vdw)).toInt - (vpl.toInt + vdw.toInt)) % 4294967296 = 0 := c_iadd vpl vdw; have := rng32 (vpl + vdw))); omega)) (by (try simp only [List.length_set]); show _ < 16; omega)
    obtain ⟨cl153, Ar153, q153, S153, M153, H153, G153⟩ := id V151
    have hin153 : ¬ ((vpl + (6 : Int32)) < 0 ∨ cl153.slots.size ≤ ((vpl + (6 : Int32))).toNatClampNeg) := inb_of S153 ⟨by rw [Int32.lt_iff_toInt_lt]; have k0 : (0 : Int32).toInt = 0 := (by decide); have := rng32 vpl; (first | (have : ((vpl + (6 : Int32))).toInt = vpl.toInt + (6 : Int) := (by have : (((vpl + (6 : Int32))).toInt - (vpl.toInt + (6 : Int))) % 4294967296 = 0 := c_iadd vpl (6 : Int32); have := rng32 (vpl + (6 : Int32)); omega)) | (have : (((vpl + (6 : Int32))).toInt - (vpl.toInt + (6 : Int))) % 4294967296 = 0 := c_iadd vpl (6 : Int32); have := rng32 (vpl + (6 : Int32)))); omega, by rw [Int32.lt_iff_toInt_lt]; have k0 : (16 : Int32).toInt = 16 := (by decide); have := rng32 vpl; (first | (have : ((vpl + (6 : Int32))).toInt = vpl.toInt + (6 : Int) := (by have : (((vpl + (6 : Int32))).toInt - (vpl.toInt + (6 : Int))) % 4294967296 = 0 := c_iadd vpl (6 : Int32); have := rng32 (vpl + (6 : Int32)); omega)) | (have : (((vpl + (6 : Int32))).toInt - (vpl.toInt + (6 : Int))) % 4294967296 = 0 := c_iadd vpl (6 : Int32); have := rng32 (vpl + (6 : Int32)))); omega⟩
    obtain ⟨T154, h154, X154, e154, W154, st154⟩ := stD X151 hx hZ e151 Ar153 (j := (vpl + (6 : Int32))) hin153 (g := (mkF m 367 #[.val (.int vp), .val (.int vd), .val (.int vx), .val (.int vy), .val (.int vk), .val (.int vpl), .val (.int vdw), .val (.double dpt), .second, .val (.double da), .second, .val (.double db), .second, .val (.ref b11), .val (.ref b62), .val (.double dpt), .second, .unset, .unset] [(.double (FP.dadd db dpt)), (.int (vpl + (6 : Int32))), (.ref b62)])) rfl rfl (hb hby at_367)
    have N154 := Fr.snoc X154 N151 g_b62
    have Zs155 : n0 ≤ h154.size := by rw [W154.size]; exact Zs152
    have V154 : Arv Z h154 b62 k62 .double (16 : Int32) ((((own_L0.set (pn + dn) (.double da)).set (pn + 6) (.double db)).set (pn + dn) (.double (FP.dsub da dpt))).set (pn + 6) (.double (FP.dadd db dpt))) (.double (0 : UInt64)) := Arv.set Ar153 q153 S153 M153 H153 G153 rfl W154 (pn + 6) (own_nat (by push_cast; have := rng32 vpl; (first | (have : ((vpl + (6 : Int32))).toInt = vpl.toInt + (6 : Int) := (by have : (((vpl + (6 : Int32))).toInt - (vpl.toInt + (6 : Int))) % 4294967296 = 0 := c_iadd vpl (6 : Int32); have := rng32 (vpl + (6 : Int32)); omega)) | (have : (((vpl + (6 : Int32))).toInt - (vpl.toInt + (6 : Int))) % 4294967296 = 0 := c_iadd vpl (6 : Int32); have := rng32 (vpl + (6 : Int32)))); omega)) (by (try simp only [List.length_set]); show _ < 16; omega)
    have hc377_156 : (0 : Int) = (0 : Int) := by decide
    have ok1 : own_ok ((own_L0.set (pn + dn) (.double da)).set (pn + 6) (.double db)) := by
      refine own_ok_set (own_ok_set own_ok0 rfl _ _ nda) ?_ _ _ ndb
      simp only [List.length_set]; rfl
    have ok2 : own_ok ((((own_L0.set (pn + dn) (.double da)).set (pn + 6) (.double db)).set (pn + dn) (.double (FP.dsub da dpt))).set (pn + 6) (.double (FP.dadd db dpt))) := by
      refine own_ok_set (own_ok_set ok1 ?_ _ _ nd) ?_ _ _ ns
      · simp only [List.length_set]; rfl
      · simp only [List.length_set]; rfl
    have f158 := ((V143.other W151 ne_b11_b62).other W154 ne_b11_b62)
    obtain ⟨_, _, ⟨T157, L157, k157, n157⟩, -, X157, ⟨Lc157, hQ157, l157, y157, z157⟩, st157⟩ := Jvm.LawKit.callS X154 hx (y := (⟨"com/example/mod7/mod7/regressors/DayCountsMovePinLaw", "same", "([D[D)Z"⟩ : MethodName)) hown (mvT hZ (hw _ (List.mem_of_getElem? (i := 27) rfl))) (mvT hZ (hw _ (List.mem_of_getElem? (i := 28) rfl))) (mvT hZ (hw _ (List.mem_of_getElem? (i := 29) rfl))) (mvT hZ (hw _ (List.mem_of_getElem? (i := 30) rfl))) (by decide) (backOf (W := 0) (rm2 l Z a0 hw [] b11 b62 k11 k62 ((((own_L0.set (pn + dn) (.double da)).set (pn + 6) (.double db)).set (pn + dn) (.double (FP.dsub da dpt))).set (pn + 6) (.double (FP.dadd db dpt))) h154 n0 Zs155 f158 V154 ok2) hZ (hw _ (List.mem_of_getElem? (i := 30) rfl)) (hw _ (List.mem_of_getElem? (i := 29) rfl)) (by decide) (by decide)) (g := (mkF m 384 #[.val (.int vp), .val (.int vd), .val (.int vx), .val (.int vy), .val (.int vk), .val (.int vpl), .val (.int vdw), .val (.double dpt), .second, .val (.double da), .second, .val (.double db), .second, .val (.ref b11), .val (.ref b62), .val (.double dpt), .second, .val (.double dpt), .second] [(.ref b62), (.ref b11)])) rfl (by rw [hml]; rfl) (argsL := [(.ref b11), (.ref b62)]) (rest := []) (lenOf pd_1 rfl) rfl (by show 2 * 0 + _ ≤ _; exact Nat.le_of_eq rfl) (hb hby at_384) (fun _ _ => ⟨rfl, e154, (by decide : 2 + 0 ≤ _), (by decide : 32 + 0 ≤ _)⟩)
    dsimp only [Pt.U, Pt.locs, Pt.cells, Pt.slots] at X157 l157 y157 z157 st157 hQ157
    rw [l157, y157, z157] at X157
    obtain ⟨zs, rfl, hzs, N157q, e157⟩ := hQ157
    have N157 := Fr.app N154 N157q
    have pre159 : ∀ t, Steps p.tables e below (T157.setTop (mkF m 387 #[.val (.int vp), .val (.int vd), .val (.int vx), .val (.int vy), .val (.int vk), .val (.int vpl), .val (.int vdw), .val (.double dpt), .second, .val (.double da), .second, .val (.double db), .second, .val (.ref b11), .val (.ref b62), .val (.double dpt), .second, .val (.double dpt), .second] [(.int zs)])) t → Steps p.tables e below (s₁.setTop (entryFrame m #[(.int vp), (.int vd), (.int vx), (.int vy), (.int vk)] maxLocals)) t := fun t kt => by
      refine pre130 _ ?_
      refine st143 _ ?_
      refine XS.dstore X143.here hx rfl (hb hby at_327) rfl (l' := #[.val (.int vp), .val (.int vd), .val (.int vx), .val (.int vy), .val (.int vk), .val (.int vpl), .val (.int vdw), .val (.double dpt), .second, .val (.double da), .second, .val (.double db), .second, .val (.ref b11), .val (.ref b62), .val (.double dpt), .second, .unset, .unset]) rfl ?_
      refine XS.iload X143.here hx rfl (hb hby at_329) rfl ?_
      refine XS.bipush X143.here hx rfl (hb hby at_331) ?_
      show Steps p.tables e below (T143.setTop (mkF m 333 #[.val (.int vp), .val (.int vd), .val (.int vx), .val (.int vy), .val (.int vk), .val (.int vpl), .val (.int vdw), .val (.double dpt), .second, .val (.double da), .second, .val (.double db), .second, .val (.ref b11), .val (.ref b62), .val (.double dpt), .second, .unset, .unset] [(.int (6 : Int32)), (.int vdw)])) _
      refine XS.icmpYes X143.here hx rfl (pc0 := 333) (pc' := 342) rfl (hb hby at_333) rfl (own_feq (a := vdw) (b := (6 : Int32)) rfl (by decide) hc333_148).2 (by decide) (by decide) ?_
      refine XS.aload X143.here hx rfl (hb hby at_342) rfl rfl ?_
      refine XS.iload X143.here hx rfl (hb hby at_344) rfl ?_
      refine XS.iload X143.here hx rfl (hb hby at_346) rfl ?_
      refine XS.iadd X143.here hx rfl (hb hby at_348) rfl ?_
      show Steps p.tables e below (T143.setTop (mkF m 349 #[.val (.int vp), .val (.int vd), .val (.int vx), .val (.int vy), .val (.int vk), .val (.int vpl), .val (.int vdw), .val (.double dpt), .second, .val (.double da), .second, .val (.double db), .second, .val (.ref b11), .val (.ref b62), .val (.double dpt), .second, .unset, .unset] [(.int (vpl + vdw)), (.ref b62)])) _
      refine XS.dload X143.here hx rfl (hb hby at_349) rfl ?_
      refine XS.dload X143.here hx rfl (hb hby at_351) rfl ?_
      refine XS.dsubS X143.here hx rfl (hb hby at_353) rfl nd rfl ?_
      refine st151 _ ?_
      refine XS.aload X151.here hx rfl (hb hby at_355) rfl rfl ?_
      show Steps p.tables e below (T151.setTop (mkF m 357 #[.val (.int vp), .val (.int vd), .val (.int vx), .val (.int vy), .val (.int vk), .val (.int vpl), .val (.int vdw), .val (.double dpt), .second, .val (.double da), .second, .val (.double db), .second, .val (.ref b11), .val (.ref b62), .val (.double dpt), .second, .unset, .unset] [(.ref b62)])) _
      refine XS.iload X151.here hx rfl (hb hby at_357) rfl ?_
      refine XS.bipush X151.here hx rfl (hb hby at_359) ?_
      refine XS.iadd X151.here hx rfl (hb hby at_361) rfl ?_
      refine XS.dload X151.here hx rfl (hb hby at_362) rfl ?_
      refine XS.dload X151.here hx rfl (hb hby at_364) rfl ?_
      show Steps p.tables e below (T151.setTop (mkF m 366 #[.val (.int vp), .val (.int vd), .val (.int vx), .val (.int vy), .val (.int vk), .val (.int vpl), .val (.int vdw), .val (.double dpt), .second, .val (.double da), .second, .val (.double db), .second, .val (.ref b11), .val (.ref b62), .val (.double dpt), .second, .unset, .unset] [(.double dpt), (.double db), (.int (vpl + (6 : Int32))), (.ref b62)])) _
      refine XS.daddS X151.here hx rfl (hb hby at_366) rfl ns rfl ?_
      refine st154 _ ?_
      refine XS.dload X154.here hx rfl (hb hby at_368) rfl ?_
      refine XS.dstore X154.here hx rfl (hb hby at_370) rfl (l' := #[.val (.int vp), .val (.int vd), .val (.int vx), .val (.int vy), .val (.int vk), .val (.int vpl), .val (.int vdw), .val (.double dpt), .second, .val (.double da), .second, .val (.double db), .second, .val (.ref b11), .val (.ref b62), .val (.double dpt), .second, .val (.double dpt), .second]) rfl ?_
      refine XS.dload X154.here hx rfl (hb hby at_372) rfl ?_
      show Steps p.tables e below (T154.setTop (mkF m 374 #[.val (.int vp), .val (.int vd), .val (.int vx), .val (.int vy), .val (.int vk), .val (.int vpl), .val (.int vdw), .val (.double dpt), .second, .val (.double da), .second, .val (.double db), .second, .val (.ref b11), .val (.ref b62), .val (.double dpt), .second, .val (.double dpt), .second] [(.double dpt)])) _
      refine XS.dload X154.here hx rfl (hb hby at_374) rfl ?_
      refine XS.dcmpS X154.here hx rfl (hb hby at_376) rfl (dcmpV_self ndpt .l) ?_
      refine XS.ifNo X154.here hx rfl (hb hby at_377) rfl (own_if (own_teq (a := (0 : Int32)) (b := (0 : Int32)) (by decide) (by decide) hc377_156).2) ?_
      refine XS.aload X154.here hx rfl (hb hby at_380) rfl rfl ?_
      refine XS.aload X154.here hx rfl (hb hby at_382) rfl rfl ?_
      show Steps p.tables e below (T154.setTop (mkF m 384 #[.val (.int vp), .val (.int vd), .val (.int vx), .val (.int vy), .val (.int vk), .val (.int vpl), .val (.int vdw), .val (.double dpt), .second, .val (.double da), .second, .val (.double db), .second, .val (.ref b11), .val (.ref b62), .val (.double dpt), .second, .val (.double dpt), .second] [(.ref b62), (.ref b11)])) _
      refine st157 _ ?_
      exact kt
    subst hzs
    have pre160 : ∀ t, Steps p.tables e below (T157.setTop (mkF m 387 #[.val (.int vp), .val (.int vd), .val (.int vx), .val (.int vy), .val (.int vk), .val (.int vpl), .val (.int vdw), .val (.double dpt), .second, .val (.double da), .second, .val (.double db), .second, .val (.ref b11), .val (.ref b62), .val (.double dpt), .second, .val (.double dpt), .second] [(.int (1 : Int32))])) t → Steps p.tables e below (s₁.setTop (entryFrame m #[(.int vp), (.int vd), (.int vx), (.int vy), (.int vk)] maxLocals)) t := pre159
    have hc387_161 : ¬ ((1 : Int) = (0 : Int)) := by decide
    obtain ⟨fs, hr, hrun, hended, hW, hsame⟩ := X157.leave (v := some (.int (1 : Int32))) (fun h => by rw [Bd.returns] at h; cases h)
    refine ⟨_, _, pre160 _ ?_, hrun, hended, _, _, rfl, ?_, ⟨_, rfl⟩, hW, hsame.mono (by decide) (by decide)⟩
    · refine XS.ifNo X157.here hx rfl (hb hby at_387) rfl (own_if (own_feq (a := (1 : Int32)) (b := (0 : Int32)) (by decide) (by decide) hc387_161).1) ?_
      refine XS.iconst X157.here hx rfl (hb hby at_390) ?_
      refine XS.goto X157.here hx rfl (pc0 := 391) (pc' := 395) rfl (hb hby at_391) (by decide) (by decide) ?_
      exact retN X157 hx (t := .boolean) Bd.returns (by simp) (hb hby at_395) hr
    · show Q0 Z vp vd vx vy vk h0 n0 _ T157.heap _
      rw [e157]
      exact ⟨rfl, N157⟩
set_option maxRecDepth 65536 in
set_option maxHeartbeats 40000000 in
theorem comes_1 {Post : Tables → Env → Array Value → State → Outcome → State → Prop} (hpost : ∀ tb e args s v u, (limb_1_1.after args s (.returned v) u = true ∧ limb_1_2.after args s (.returned v) u = true ∧ True) → FrameEnd s (.returned v) u (Jvm.fieldLocs frame_1_writes args s ++ Jvm.arrayLocs frame_1_arrays args s ++ Jvm.staticLocs frame_1_statics s) 16 128 → Post tb e args s (.returned v) u) :
    ArmFor flags0 classFile x code maxLocals ret World_1 tables_1 room_1 Calls_1 rest_1 Pre_1 Post := by
  intro l hfl _ _ p e ha hc hk s m args below hf hA hF happ hP
  obtain ⟨hcalls, hrest, hpre⟩ := hP
  obtain ⟨-, -, -, hnamed, -, -, -, hat⟩ := (Spec.applies_iff hf).mp happ
  obtain ⟨hg, hn⟩ := and_e (Cond.before_iff.mp (show (Jvm.Cond.and given_1 narrow_1).before args s = true from hpre))
  obtain ⟨g0, gr0⟩ := and_e hg
  obtain ⟨ga0, gr1⟩ := and_e gr0
  obtain ⟨ga1, gr2⟩ := and_e gr1
  obtain ⟨ga2, gr3⟩ := and_e gr2
  obtain ⟨ga3, gr4⟩ := and_e gr3
  obtain ⟨w0, w1, w2, w3, w4, rfl⟩ : ∃ w0 w1 w2 w3 w4 : Value, args = #[w0, w1, w2, w3, w4] := by
    have hs : args.size = 5 := by simpa [Cond.value, given_1] using g0
    obtain ⟨L⟩ := args
    match L, hs with
    | [w0, w1, w2, w3, w4], _ => exact ⟨w0, w1, w2, w3, w4, rfl⟩
  have hw := fun d (hd : d ∈ tables_1) => atoms_spec (ws := Jvm.Cond.code x code maxLocals ret :: tables_1) hat d (List.mem_cons_of_mem _ hd)
  have hfit : Fit s := fun {y c} hc i hi => by
    obtain ⟨ha, rfl⟩ := Array.getElem?_eq_some_iff.mp hc
    have q := List.all_eq_true.mp ((Array.all_eq_true_iff_forall_mem.mp hF) _ (Array.getElem_mem ha)) i (List.mem_range.mpr hi)
    simpa [Array.getElem?_eq_getElem hi] using q
  obtain ⟨i0, ei0⟩ := is_v ga0
  obtain rfl : w0 = (.int i0) := Option.some.inj ei0
  obtain ⟨i1, ei1⟩ := is_v ga1
  obtain rfl : w1 = (.int i1) := Option.some.inj ei1
  obtain ⟨i2, ei2⟩ := is_v ga2
  obtain rfl : w2 = (.int i2) := Option.some.inj ei2
  obtain ⟨i3, ei3⟩ := is_v ga3
  obtain rfl : w3 = (.int i3) := Option.some.inj ei3
  obtain ⟨i4, ei4⟩ := is_v gr4
  obtain rfl : w4 = (.int i4) := Option.some.inj ei4
  have Sd : Sta s s.heap "com/example/mod7/mod7/regressors/DayCounts" "SUNDAY" "I" (.int (6 : Int32)) := Sta.start (Cond.eq_int (Cond.before_iff.mpr hn) rfl) (Or.inr ⟨hw _ (List.mem_of_getElem? (i := 23) rfl), hw _ (List.mem_of_getElem? (i := 26) rfl)⟩)
  obtain ⟨n, o, h1, h2, h3, v0, L, rfl, hQ, hq⟩ := rm0 l s _ hw tables_1 i0 i1 i2 i3 i4 s.heap s.heap.size (Nat.le_refl _) (Old.start s) Sd p e ha hc hk s m _ below hf ((Spec.applies_iff_loose hf).mp happ).1 ⟨rfl, State.Warmed39.refl s, rfl⟩ trivial
  obtain ⟨rfl, N⟩ : v0 = some (.int (1 : Int32)) ∧ Fr s.heap.size L := hQ
  refine ⟨n, _, h1, h2, h3, hpost _ _ _ _ _ _ ⟨Cond.after_iff.mpr rfl, Cond.after_iff.mpr (eq_i res_at (Term.int_eval (1)) rfl), trivial⟩ ⟨hq.1, hq.2.1, (hq.2.2.sift fun y hy => Or.inr (N y hy)).mono (by decide) (by decide)⟩⟩
theorem main_1_1 : Claimed_1_1 := comes_1 fun _ _ _ _ _ _ h hF => ⟨h.1, hF⟩
theorem main_1_2 : Claimed_1_2 := comes_1 fun _ _ _ _ _ _ h hF => ⟨h.2.1, hF⟩
end Jvm.Pilot.@@N@@
namespace Jvm.Pilot.@@N@@
open Jvm Jvm.ClassFile Sem Op Lib Jvm.Free Jvm.Stand Jvm.Pilot.@@N@@.Jvm.D
/-! MADE BY PROGRAM (witnessworld.py) out of the Statement's table words and the real class files: 11 classes; the members and pool entries that the words name. The judged class is class 1, her method 1. -/
namespace start1
open Jvm.ClassFile
def u (s : String) : CpInfo := .utf8 (stringToUtf16 s)
/-- a pool by its gaps: so many unusable entries, then the entry; so many at the end -/
def gap : Nat → List CpInfo → List CpInfo
  | 0, r => r
  | n + 1, r => .unusable :: gap n r
def poolList (es : List (Nat × CpInfo)) (last : Nat) : List CpInfo := es.foldr (fun e r => gap e.1 (e.2 :: r)) (gap last [])
def pool (es : List (Nat × CpInfo)) (last : Nat) : Array CpInfo := ⟨poolList es last⟩
def fileOf (pool : Array CpInfo) (this : Nat) (attrs : Array Attribute := #[]) (ms : Array MethodInfo := #[]) (fl : Nat := 33) (sup : Nat := 0) (ifs : Array Nat := #[]) (fds : Array FieldInfo := #[]) : ClassFile where
  minorVersion := 0
  majorVersion := 65
  constantPool := pool
  accessFlags := fl
  thisClass := this
  superClass := sup
  interfaces := ifs
  fields := fds
  methods := ms
  attributes := attrs
def plain (name : String) (sup : Option ClassId) : Class where
  name := name
  kind := .ordinary
  loader := none
  accessFlags := 33
  super := sup
  interfaces := #[]
  cf := none
  fields := #[]
  methods := #[]
  instanceTypes := #[]
  staticTypes := #[]
  resolved := #[]
  callSites := []
  init := .initialized
  statics := none
  mirror := none

def pool0 : Array CpInfo := pool [(5, u "<init>"), (0, u "()V"), (1, .class_ 10), (1, u "java/lang/Object")] 113

def k0m0 : Method := { name := "<init>", desc := "()V", sig := { parameters := [], returnType := none }, accessFlags := 1, code := none }
/-- java/lang/Object -/
def k0 : Class := { plain "java/lang/Object" none with
  accessFlags := 33
  interfaces := #[]
  cf := some (fileOf pool0 8 #[] #[{ accessFlags := 1, nameIndex := 5, descriptorIndex := 6, attributes := #[] }] 33 0 #[] #[])
  fields := #[]
  methods := #[k0m0]
  instanceTypes := #[]
  staticTypes := #[]
  resolved := Array.replicate 124 none
  statics := none }

def pool1 : Array CpInfo := pool [(2, .class_ 4), (1, u "java/lang/Object"), (0, u "<init>"), (0, u "()V"), (0, .integer 2147483647), (0, .double 4652218415073722368), (1, .integer 65535), (0, .double 4616189618054758400), (1, .double 4636737291354636288), (1, .double 4636807660098813952), (1, .double 4636878028842991616), (1, .double 4636948397587169280), (1, .double 4637018766331346944), (1, .double 4637089135075524608), (1, .double 4637159503819702272), (1, .double 4637229872563879936), (1, .double 4637300241308057600), (1, .double 4637370610052235264), (1, .double 4637440978796412928), (1, .double 4637511347540590592), (1, .double 4637581716284768256), (1, .double 4637652085028945920), (1, .double 4637722453773123584), (1, .double 4637792822517301248), (1, .methodref 46 47), (0, .class_ 48), (0, .nameAndType 49 50), (0, u "com/example/mod7/mod7/regressors/DayCounts"), (0, u "move"), (0, u "([DIID)D"), (0, .methodref 52 53), (0, .class_ 54), (0, .nameAndType 55 56), (0, u "com/example/mod7/mod7/regressors/DayCountsMovePinLaw"), (0, u "same"), (0, u "([D[D)Z"), (2, u "law"), (0, u "(IIIII)Z")] 5

def k1m0 : Method := { name := "<init>", desc := "()V", sig := { parameters := [], returnType := none }, accessFlags := 1, code := none }
def k1c1 : Code := { maxStack := 6, maxLocals := 19, code := code, exceptionTable := #[], attributes := #[] }
def k1m1 : Method := { name := "law", desc := "(IIIII)Z", sig := { parameters := [.int, .int, .int, .int, .int], returnType := some .boolean }, accessFlags := 9, code := some k1c1 }
def k1c2 : Code := { maxStack := 4, maxLocals := 2, code := method_3_code, exceptionTable := #[], attributes := #[] }
def k1m2 : Method := { name := "same", desc := "([D[D)Z", sig := { parameters := [(.array .double), (.array .double)], returnType := some .boolean }, accessFlags := 10, code := some k1c2 }
/-- com/example/mod7/mod7/regressors/DayCountsMovePinLaw -/
def k1 : Class := { plain "com/example/mod7/mod7/regressors/DayCountsMovePinLaw" (some 0) with
  accessFlags := 49
  interfaces := #[]
  cf := some (fileOf pool1 52 #[] #[{ accessFlags := 1, nameIndex := 5, descriptorIndex := 6, attributes := #[] }, { accessFlags := 9, nameIndex := 59, descriptorIndex := 60, attributes := #[] }, { accessFlags := 10, nameIndex := 55, descriptorIndex := 56, attributes := #[] }] 49 2 #[] #[])
  fields := #[]
  methods := #[k1m0, k1m1, k1m2]
  instanceTypes := #[]
  staticTypes := #[]
  resolved := Array.replicate 66 none
  statics := none }

def pool2 : Array CpInfo := pool [(2, .class_ 4), (1, u "java/lang/Object"), (3, .class_ 10), (1, u "com/example/mod7/mod7/regressors/DayCounts"), (0, u "span"), (0, u "Lcom/example/mod7/mod7/regressors/Span;"), (8, u "counts"), (0, u "[D"), (2, u "moved"), (39, u "HEAVIEST_FIRST"), (0, u "Ljava/util/Comparator;"), (68, u "WEEKDAYS"), (0, u "Lcom/example/mod7/mod7/calendar/Blocks;"), (10, u "MOVES"), (8, u "move"), (0, u "([DIID)D"), (0, .fieldref 8 159), (0, .nameAndType 160 161), (0, u "SUNDAY"), (0, u "I"), (8, .class_ 171), (0, u "com/example/mod7/mod7/regressors/DayCounts$1"), (4, u "DAYS")] 23

def k2c0 : Code := { maxStack := 6, maxLocals := 5, code := prog_42_method_9_code, exceptionTable := #[], attributes := #[] }
def k2m0 : Method := { name := "move", desc := "([DIID)D", sig := { parameters := [(.array .double), .int, .int, .double], returnType := some .double }, accessFlags := 8, code := some k2c0 }
/-- com/example/mod7/mod7/regressors/DayCounts -/
def k2 : Class := { plain "com/example/mod7/mod7/regressors/DayCounts" (some 0) with
  accessFlags := 33
  interfaces := #[]
  cf := some (fileOf pool2 8 #[.nestMembers #[170]] #[{ accessFlags := 8, nameIndex := 156, descriptorIndex := 157, attributes := #[] }] 33 2 #[] #[{ accessFlags := 26, nameIndex := 160, descriptorIndex := 161, attributes := #[] }, { accessFlags := 26, nameIndex := 65, descriptorIndex := 66, attributes := #[] }, { accessFlags := 24, nameIndex := 176, descriptorIndex := 161, attributes := #[] }, { accessFlags := 26, nameIndex := 135, descriptorIndex := 136, attributes := #[] }, { accessFlags := 26, nameIndex := 147, descriptorIndex := 136, attributes := #[] }, { accessFlags := 18, nameIndex := 11, descriptorIndex := 12, attributes := #[] }, { accessFlags := 18, nameIndex := 21, descriptorIndex := 22, attributes := #[] }, { accessFlags := 18, nameIndex := 25, descriptorIndex := 22, attributes := #[] }])
  fields := #[{ name := "SUNDAY", type := .int, accessFlags := 26, slot := 0, constantValue := 0 }, { name := "HEAVIEST_FIRST", type := (.object "java/util/Comparator"), accessFlags := 26, slot := 1, constantValue := 0 }, { name := "DAYS", type := .int, accessFlags := 24, slot := 2, constantValue := 0 }, { name := "WEEKDAYS", type := (.object "com/example/mod7/mod7/calendar/Blocks"), accessFlags := 26, slot := 3, constantValue := 0 }, { name := "MOVES", type := (.object "com/example/mod7/mod7/calendar/Blocks"), accessFlags := 26, slot := 4, constantValue := 0 }, { name := "span", type := (.object "com/example/mod7/mod7/regressors/Span"), accessFlags := 18, slot := 0, constantValue := 0 }, { name := "counts", type := (.array .double), accessFlags := 18, slot := 1, constantValue := 0 }, { name := "moved", type := (.array .double), accessFlags := 18, slot := 2, constantValue := 0 }]
  methods := #[k2m0]
  instanceTypes := #[(.object "com/example/mod7/mod7/regressors/Span"), (.array .double), (.array .double)]
  staticTypes := #[.int, (.object "java/util/Comparator"), .int, (.object "com/example/mod7/mod7/calendar/Blocks"), (.object "com/example/mod7/mod7/calendar/Blocks")]
  resolved := Array.replicate 200 none
  statics := some 0 }

def pool3 : Array CpInfo := pool [(1, u "java/lang/Cloneable"), (0, .class_ 1), (0, u "java/lang/Object"), (0, .class_ 3)] 3

/-- java/lang/Cloneable -/
def k3 : Class := { plain "java/lang/Cloneable" (some 0) with
  accessFlags := 1537
  interfaces := #[]
  cf := some (fileOf pool3 2 #[] #[] 1537 4 #[] #[])
  fields := #[]
  methods := #[]
  instanceTypes := #[]
  staticTypes := #[]
  resolved := Array.replicate 8 none
  statics := none }

def pool4 : Array CpInfo := pool [(1, u "java/io/Serializable"), (0, .class_ 1), (0, u "java/lang/Object"), (0, .class_ 3)] 3

/-- java/io/Serializable -/
def k4 : Class := { plain "java/io/Serializable" (some 0) with
  accessFlags := 1537
  interfaces := #[]
  cf := some (fileOf pool4 2 #[] #[] 1537 4 #[] #[])
  fields := #[]
  methods := #[]
  instanceTypes := #[]
  staticTypes := #[]
  resolved := Array.replicate 8 none
  statics := none }

/-- the primitive byte -/
def k5 : Class := { plain "byte" none with kind := .primitive 'B', accessFlags := 0x411 }
/-- [B -/
def k6 : Class := { plain "[B" (some 0) with kind := .array 5 .byte, interfaces := #[3, 4], accessFlags := 1041 }

/-- the primitive double -/
def k7 : Class := { plain "double" none with kind := .primitive 'D', accessFlags := 0x411 }
/-- [D -/
def k8 : Class := { plain "[D" (some 0) with kind := .array 7 .double, interfaces := #[3, 4], accessFlags := 1041 }

/-- the primitive int -/
def k9 : Class := { plain "int" none with kind := .primitive 'I', accessFlags := 0x411 }
/-- [I -/
def k10 : Class := { plain "[I" (some 0) with kind := .array 9 .int, interfaces := #[3, 4], accessFlags := 1041 }

def heap : Heap := #[{ cls := 2, slots := #[.int 6, .null, .int 0, .null, .null], vm := .statics 2 }]
def classes : Array Class := #[k0, k1, k2, k3, k4, k5, k6, k7, k8, k9, k10]
def interned : List (Array UInt16 × Addr) := []
def slotsUsed : Nat := 5
def theMethod : MethodId := ⟨1, 1⟩
def args0 : Array Value := #[.int 5, .int 6, .int 0, .int 7, .int 8]
def aboutOver (below : List Frame) : State where
  vm := { classes := classes, interned := interned.toArray }
  heap := heap
  slotsUsed := slotsUsed
  threads := #[{ frames := .invoking theMethod args0 :: below }]
def below0 : List Frame := [.native { method := ⟨0, 0⟩, args := #[] }]
def about1 : State := aboutOver below0
def p0 : Program := .bare "" "" ""
def e0 : Env := launch0.env 0 0 0
theorem w_frames : about1.frames = Frame.invoking theMethod args0 :: below0 := rfl
set_option maxRecDepth 65536 in
theorem w_args : argsFit about1.vm theMethod args0 = true := by decide +kernel
set_option maxRecDepth 65536 in
theorem w_heap : heapFits about1 = true := by decide +kernel
set_option maxRecDepth 65536 in
theorem w_runnable : about1.curStatus? = some .runnable := by decide +kernel
set_option maxRecDepth 65536 in
theorem w_alone : about1.alone = true := by decide +kernel
set_option maxRecDepth 65536 in
theorem w_named : about1.methodNamed? x = some theMethod := by decide +kernel
set_option maxRecDepth 65536 in
theorem w_hears : about1.hears theMethod below0 = true := by decide +kernel
set_option maxRecDepth 65536 in
theorem w_ripe : about1.ripe theMethod args0 below0 = true := by decide +kernel
theorem w_running : about1.status = .running := rfl
set_option maxRecDepth 65536 in
theorem w_room : about1.hasRoom e0.platform room_1 = true :=
  launch0.hasRoom_least _ room_1 (by decide +kernel) (by decide +kernel) (by decide +kernel) (by decide +kernel) (by decide +kernel) (by decide +kernel)
theorem allAtoms_all (ts : List Jvm.Cond) (a : Array Jvm.Value) (st : Jvm.State) : (allAtoms ts).before a st = ts.all (fun c => c.before a st) := by
  induction ts with
  | nil => rfl
  | cons c t ih =>
    show (Jvm.Cond.and c (allAtoms t)).before a st = _
    rw [Jvm.Cond.before_and, ih, List.all_cons]
def words1 : List Jvm.Cond := Jvm.Cond.code x code maxLocals ret :: tables_1
/-- a 'code' word, met by the world's own term for the bytes: nothing is compared byte by byte -/
theorem code_word {y : MethodName} {bytes : ByteArray} {mx : Nat} {rt : Option FieldType} {a : Array Value} {s : State} {m : MethodId} {meth : Method} {c : Code} (h1 : s.methodNamed? y = some m) (h2 : s.vm.method? m = some meth) (h3 : meth.code = some c) (h4 : c.code = bytes)
    (h5 : (c.maxLocals == mx && c.exceptionTable.isEmpty && decide (c.maxStack ≤ mostOperands) && decide (meth.sig.returnType = rt) && !meth.locks && decide (parseMethodDescriptor y.desc = some meth.sig)) = true) : (Jvm.Cond.code y bytes mx rt).before a s = true := by
  simp only [Bool.and_eq_true, beq_iff_eq, Bool.not_eq_true', decide_eq_true_eq] at h5
  obtain ⟨⟨⟨⟨⟨g1, g2⟩, g3⟩, g4⟩, g5⟩, g6⟩ := h5
  simp [Cond.before, Cond.holds, Cond.value, h1, h2, h3, h4, g1, g2, g3, g4, g5, g6]
def isCode : Jvm.Cond → Bool
  | .code _ _ _ _ => true
  | _ => false
theorem all_split {L : List Jvm.Cond} {P : Jvm.Cond → Bool} (h1 : L.all (fun c => isCode c || P c) = true) (h2 : ∀ c ∈ L.filter isCode, P c = true) : L.all P = true := by
  refine List.all_eq_true.mpr fun c hc => ?_
  have h := List.all_eq_true.mp h1 c hc
  rcases Bool.eq_false_or_eq_true (isCode c) with hi | hi
  · exact h2 c (List.mem_filter.mpr ⟨hc, hi⟩)
  · simpa [hi] using h
set_option maxRecDepth 65536 in
theorem w_c0 : (Jvm.Cond.code x code maxLocals ret).before args0 about1 = true := code_word (m := ⟨1, 1⟩) (meth := k1m1) (c := k1c1) (by decide +kernel) rfl rfl rfl (by decide +kernel)
set_option maxRecDepth 65536 in
theorem w_c1 : (Jvm.Cond.code ({ cls := "com/example/mod7/mod7/regressors/DayCounts", name := "move", desc := "([DIID)D" } : Jvm.MethodName) prog_42_method_9_code (5 : Nat) (Option.some Jvm.ClassFile.FieldType.double)).before args0 about1 = true := code_word (m := ⟨2, 0⟩) (meth := k2m0) (c := k2c0) (by decide +kernel) rfl rfl rfl (by decide +kernel)
set_option maxRecDepth 65536 in
theorem w_c2 : (Jvm.Cond.code ({ cls := "com/example/mod7/mod7/regressors/DayCountsMovePinLaw", name := "same", desc := "([D[D)Z" } : Jvm.MethodName) method_3_code (2 : Nat) (Option.some Jvm.ClassFile.FieldType.boolean)).before args0 about1 = true := code_word (m := ⟨1, 2⟩) (meth := k1m2) (c := k1c2) (by decide +kernel) rfl rfl rfl (by decide +kernel)
def codes1 : List Jvm.Cond := [Jvm.Cond.code x code maxLocals ret, Jvm.Cond.code ({ cls := "com/example/mod7/mod7/regressors/DayCounts", name := "move", desc := "([DIID)D" } : Jvm.MethodName) prog_42_method_9_code (5 : Nat) (Option.some Jvm.ClassFile.FieldType.double), Jvm.Cond.code ({ cls := "com/example/mod7/mod7/regressors/DayCountsMovePinLaw", name := "same", desc := "([D[D)Z" } : Jvm.MethodName) method_3_code (2 : Nat) (Option.some Jvm.ClassFile.FieldType.boolean)]
set_option maxRecDepth 65536 in
theorem codes_eq : words1.filter isCode = codes1 := rfl
theorem w_codes : ∀ c ∈ words1.filter isCode, c.before args0 about1 = true := by
  rw [codes_eq]
  intro c hc
  simp only [codes1, List.mem_cons, List.not_mem_nil, or_false] at hc
  rcases hc with rfl | rfl | rfl
  · exact w_c0
  · exact w_c1
  · exact w_c2
set_option maxRecDepth 65536 in
theorem w_t1 : (words1.take 24).all (fun c => isCode c || c.before args0 about1) = true := by decide +kernel
set_option maxRecDepth 65536 in
theorem w_t2 : (words1.drop 24).all (fun c => isCode c || c.before args0 about1) = true := by decide +kernel
theorem w_tables : (allAtoms (Jvm.Cond.code x code maxLocals ret :: tables_1)).before args0 about1 = true := by
  rw [allAtoms_all]
  show words1.all (fun c => c.before args0 about1) = true
  refine all_split ?_ w_codes
  rw [← List.take_append_drop 24 words1, List.all_append, w_t1, w_t2]
  rfl
set_option maxRecDepth 65536 in
theorem w_case : (Jvm.Cond.and given_1 narrow_1).before args0 about1 = true := by decide +kernel
theorem w_applies : (headSpec (Jvm.Cond.code x code maxLocals ret :: tables_1) room_1).applies x e0.platform about1 = true :=
  (Spec.applies_iff w_frames).mpr ⟨w_running, w_runnable, w_alone, w_named, w_hears, w_ripe, w_room, w_tables⟩
theorem atStart : AtStart classFile x code maxLocals ret World_1 tables_1 room_1 Calls_1 rest_1 Pre_1 launch0 p0 e0 about1 theMethod args0 below0 :=
  ⟨lists_1, trivial, launch0.admits_env _ _ _, launch0.least_env, fairChoices_fair.cas, fairChoices_fair.clock, w_frames, w_args, w_heap, w_applies, trivial, trivial, w_case⟩
end start1
theorem witness_1 : WitnessClaimed_1 := ⟨start1.p0, start1.e0, start1.about1, start1.theMethod, start1.args0, start1.below0, start1.atStart⟩
end Jvm.Pilot.@@N@@
