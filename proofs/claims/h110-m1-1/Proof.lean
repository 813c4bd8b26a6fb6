import JvmDerived
import JvmDerived.Pilot.@@N@@Statement
import JvmDerived.Pilot.@@N@@Code
set_option linter.unusedVariables false
set_option linter.unusedSimpArgs false
namespace Jvm.RoadKit
open Sem ClassFile Op Lib Jvm.Stand Jvm.Free Jvm.LawKit
section New
variable {p : Program} {l : Launch} {e : Env} {R : Room} {s : State} {m : MethodId} {args : Array Value} {below : List Frame} {meth : Method} {c : Code} {T : State} {locs : List Loc} {cells slots : Nat}
theorem retI (X : Stand p l e R s m args below meth c T locs cells slots) (hx : p.tables.exec = Jvm.exec) {pc : Nat} {Ls : Array Slot} {z : Int32} {rest : List Value} (hret : meth.sig.returnType = some .int) (hd : decode c.code pc = .ok (.ireturn, 1)) {fs : List Frame}
    (hl : ∀ (f : JFrame) (acts : List Action), f.method = m → f.locked = none → f.entered = [] → (doReturn e (T.setTop f) acts (some (.int z))).1 = T.setFrames fs) : Steps p.tables e below (T.setTop (mkF m pc Ls (.int z :: rest))) (T.setFrames fs) := by
  have hm' : T.vm.method? m = some meth := X.method'
  have hn : narrow .int (.int z) = .int z := rfl
  show Steps p.tables e below (T.setTop { method := m, pc := pc, locals := Ls, stack := _ :: rest, locked := none }) _
  jvm_step X.here [X.here.top, hx, hd, hm', hret, hn]
  first | (intro acts; rw [hl _ acts rfl rfl rfl]) | rw [hl _ _ rfl rfl rfl]
  exact Steps.refl _
end New
end Jvm.RoadKit
namespace Jvm.Pilot.@@N@@
open Jvm Jvm.ClassFile Sem Op Lib Jvm.Free Jvm.Stand Jvm.LawKit Jvm.RoadKit Bundle Jvm.Pilot.@@N@@.Jvm.D
theorem own_tlt {a b : Int32} {x y : Int} (ha : a.toInt = x) (hb : b.toInt = y) (h : x < y) : if_icmp.holds .lt a b = true ∧ if_icmp.holds .ge a b = false ∧ if_icmp.holds .gt b a = true ∧ if_icmp.holds .le b a = false := tlt (Int32.lt_iff_toInt_lt.mpr (by rw [ha, hb]; exact h))
theorem own_flt {a b : Int32} {x y : Int} (ha : a.toInt = x) (hb : b.toInt = y) (h : ¬ x < y) : if_icmp.holds .lt a b = false ∧ if_icmp.holds .ge a b = true ∧ if_icmp.holds .gt b a = false ∧ if_icmp.holds .le b a = true := flt (fun q => h (by rw [← ha, ← hb]; exact Int32.lt_iff_toInt_lt.mp q))
theorem own_teq {a b : Int32} {x y : Int} (ha : a.toInt = x) (hb : b.toInt = y) (h : x = y) : if_icmp.holds .eq a b = true ∧ if_icmp.holds .ne a b = false := teq (Int32.toInt_inj.mp (by rw [ha, hb]; exact h))
theorem own_feq {a b : Int32} {x y : Int} (ha : a.toInt = x) (hb : b.toInt = y) (h : ¬ x = y) : if_icmp.holds .eq a b = false ∧ if_icmp.holds .ne a b = true := feq (fun q => h (by rw [← ha, ← hb, q]))
theorem own_if {cd : ClassFile.Cond} {x : Int32} {b : Bool} (h : if_icmp.holds cd x 0 = b) : ifCond.holds cd x = b := (if0 cd x).trans h
theorem own_tltL {x y : Int64} {a b : Int} (ha : x.toInt = a) (hb : y.toInt = b) (h : a < b) : if_icmp.holds .lt (lcmpW x y) 0 = true ∧ if_icmp.holds .ge (lcmpW x y) 0 = false := have q := tlt ((lw_lt x y).mpr (Int64.lt_iff_toInt_lt.mpr (by rw [ha, hb]; exact h))); ⟨q.1, q.2.1⟩
theorem own_fltL {x y : Int64} {a b : Int} (ha : x.toInt = a) (hb : y.toInt = b) (h : ¬ a < b) : if_icmp.holds .lt (lcmpW x y) 0 = false ∧ if_icmp.holds .ge (lcmpW x y) 0 = true := have q := flt (fun w => h (by rw [← ha, ← hb]; exact Int64.lt_iff_toInt_lt.mp ((lw_lt x y).mp w))); ⟨q.1, q.2.1⟩
theorem own_tgtL {x y : Int64} {a b : Int} (ha : x.toInt = a) (hb : y.toInt = b) (h : b < a) : if_icmp.holds .gt (lcmpW x y) 0 = true ∧ if_icmp.holds .le (lcmpW x y) 0 = false := have q := tlt ((lw_gt x y).mpr (Int64.lt_iff_toInt_lt.mpr (by rw [ha, hb]; exact h))); ⟨q.2.2.1, q.2.2.2⟩
theorem own_fgtL {x y : Int64} {a b : Int} (ha : x.toInt = a) (hb : y.toInt = b) (h : ¬ b < a) : if_icmp.holds .gt (lcmpW x y) 0 = false ∧ if_icmp.holds .le (lcmpW x y) 0 = true := have q := flt (fun w => h (by rw [← ha, ← hb]; exact Int64.lt_iff_toInt_lt.mp ((lw_gt x y).mp w))); ⟨q.2.2.1, q.2.2.2⟩
theorem own_teqL {x y : Int64} {a b : Int} (ha : x.toInt = a) (hb : y.toInt = b) (h : a = b) : if_icmp.holds .eq (lcmpW x y) 0 = true ∧ if_icmp.holds .ne (lcmpW x y) 0 = false := teq ((lw_eq x y).mpr (Int64.toInt_inj.mp (by rw [ha, hb]; exact h)))
theorem own_feqL {x y : Int64} {a b : Int} (ha : x.toInt = a) (hb : y.toInt = b) (h : ¬ a = b) : if_icmp.holds .eq (lcmpW x y) 0 = false ∧ if_icmp.holds .ne (lcmpW x y) 0 = true := feq (fun w => h (by rw [← ha, ← hb, (lw_eq x y).mp w]))
def own_f (x s c : Int) : Int := if x ≤ s then c else 0
theorem own_fp {x s c : Int} (h : x ≤ s) : own_f x s c = c := if_pos h
theorem own_fn {x s c : Int} (h : ¬ x ≤ s) : own_f x s c = 0 := if_neg h
theorem d5_0 : decode jdk_65_method_30_code 0 = .ok (.iload_n 1, 1) := by decide +kernel
theorem d5_1 : decode jdk_65_method_30_code 1 = .ok (.iload_n 2, 1) := by decide +kernel
theorem d5_2 : decode jdk_65_method_30_code 2 = .ok (.if_icmp .le 44, 3) := by decide +kernel
theorem d5_46 : decode jdk_65_method_30_code 46 = .ok (.iload_n 1, 1) := by decide +kernel
theorem d5_47 : decode jdk_65_method_30_code 47 = .ok (.ifCond .ge 12, 3) := by decide +kernel
theorem d5_59 : decode jdk_65_method_30_code 59 = .ok (.iload_n 2, 1) := by decide +kernel
theorem d5_60 : decode jdk_65_method_30_code 60 = .ok (.iload_n 0, 1) := by decide +kernel
theorem d5_61 : decode jdk_65_method_30_code 61 = .ok (.if_icmp .le 12, 3) := by decide +kernel
theorem d5_73 : decode jdk_65_method_30_code 73 = .ok (.return_, 1) := by decide +kernel
theorem pn_0 : plainName "java/util/Arrays" = true := by first | (simp [plainName, overriddenIn]; done) | decide +kernel
theorem ef_rm5 (m : MethodId) (x0 : Int32) (x1 : Int32) (x2 : Int32) : entryFrame m #[(.int x0), (.int x1), (.int x2)] 3 = mkF m 0 #[.val (.int x0), .val (.int x1), .val (.int x2)] [] := by first | (simp [entryFrame, mkF, argsToLocals, Value.category]; done) | rfl
def Q5 (Z : State) (vn : Int32) (va : Int32) (vb : Int32) (h0 : Heap) (n0 : Nat) (v : Option Value) (h : Heap) (L : List Loc) : Prop := v = none ∧ Fr n0 L ∧ h = h0
set_option maxRecDepth 65536 in
set_option maxHeartbeats 40000000 in
theorem rm5 (l : Launch) (Z : State) (a0 : Array Value) (hw : ∀ d ∈ tables_1, d.before a0 Z = true) (ws : List Jvm.Cond) (vn : Int32) (va : Int32) (vb : Int32) (h0 : Heap) (n0 : Nat) (Z0 : n0 ≤ h0.size) (r1 : 0 ≤ va.toInt) (r2 : va.toInt ≤ vb.toInt) (r3 : vb.toInt ≤ vn.toInt) :
    MetFree l (⟨"java/util/Arrays", "rangeCheck", "(III)V"⟩ : MethodName) (head1 (Jvm.Cond.code (⟨"java/util/Arrays", "rangeCheck", "(III)V"⟩ : MethodName) jdk_65_method_30_code 3 none :: ws) ({ frames := 0, cells := 0, slots := 0, locals := 0 } : Room)) (fun a U => a = #[(.int vn), (.int va), (.int vb)] ∧ Z.Warmed39 U.vm ∧ U.heap = h0) (fun _ _ _ _ _ => True) (fun _ U o U' => ∃ v L, o = .returned v ∧ Q5 Z vn va vb h0 n0 v U'.heap L ∧ FrameEnd U o U' L ({ frames := 0, cells := 0, slots := 0, locals := 0 } : Room).cells ({ frames := 0, cells := 0, slots := 0, locals := 0 } : Room).slots) := by
  refine MetFree.of_bodySF (plainFor_of_name pn_0) hisR ?_
  intro p e s m args below meth c s₁ Bd hml0 hP hK
  obtain ⟨rfl, hZ, hh⟩ := hP
  have hx := Bd.exec
  have hby := Bd.bytes
  have hml : c.maxLocals = 3 := hml0
  have hown : s.vm.findClass "java/util/Arrays" = some m.cls := findClass_of_methodNamed Bd.named
  have hnm := (name_of_methodNamed Bd.named Bd.method).1
  have X0 : Stand p l e ({ frames := 0, cells := 0, slots := 0, locals := 0 } : Room) s m #[(.int vn), (.int va), (.int vb)] below meth c s₁ [] 0 0 := Stand.of_body Bd
  have e0 : s₁.heap = h0 := by rw [← hh, Bd.state]; rfl
  have N0 := Fr.nil n0
  have pre0 : ∀ t, Steps p.tables e below (s₁.setTop (mkF m 0 #[.val (.int vn), .val (.int va), .val (.int vb)] [])) t → Steps p.tables e below (s₁.setTop (entryFrame m #[(.int vn), (.int va), (.int vb)] 3)) t := fun t k => castTop (ef_rm5 m vn va vb) k
  have hc2_1 : ¬ (vb.toInt < va.toInt) := by omega
  have hc47_2 : ¬ (va.toInt < (0 : Int)) := by omega
  have hc61_3 : ¬ (vn.toInt < vb.toInt) := by omega
  obtain ⟨fs, hr, hrun, hended, hW, hsame⟩ := X0.leave (v := none) (fun _ => rfl)
  refine ⟨_, _, pre0 _ ?_, hrun, hended, _, _, rfl, ?_, ⟨_, rfl⟩, hW, hsame.mono (by decide) (by decide)⟩
  · refine XS.iloadN X0.here hx rfl (hb hby d5_0) rfl ?_
    refine XS.iloadN X0.here hx rfl (hb hby d5_1) rfl ?_
    refine XS.icmpYes X0.here hx rfl (pc0 := 2) (pc' := 46) rfl (hb hby d5_2) rfl (own_flt (a := vb) (b := va) rfl rfl hc2_1).2.2.2 (by decide) (by decide) ?_
    refine XS.iloadN X0.here hx rfl (hb hby d5_46) rfl ?_
    show Steps p.tables e below (s₁.setTop (mkF m 47 #[.val (.int vn), .val (.int va), .val (.int vb)] [(.int va)])) _
    refine XS.ifYes X0.here hx rfl (pc0 := 47) (pc' := 59) rfl (hb hby d5_47) rfl (own_if (own_flt (a := va) (b := (0 : Int32)) rfl (by decide) hc47_2).2.1) (by decide) (by decide) ?_
    refine XS.iloadN X0.here hx rfl (hb hby d5_59) rfl ?_
    refine XS.iloadN X0.here hx rfl (hb hby d5_60) rfl ?_
    refine XS.icmpYes X0.here hx rfl (pc0 := 61) (pc' := 73) rfl (hb hby d5_61) rfl (own_flt (a := vn) (b := vb) rfl rfl hc61_3).2.2.2 (by decide) (by decide) ?_
    exact X0.returnOut hx Bd.returns (hb hby d5_73) hr
  · show Q5 Z vn va vb h0 n0 _ s₁.heap _
    rw [e0]
    exact ⟨rfl, N0, rfl⟩
theorem d6_0 : decode jdk_65_method_56_code 0 = .ok (.iload_n 1, 1) := by decide +kernel
theorem d6_1 : decode jdk_65_method_56_code 1 = .ok (.istore 5, 2) := by decide +kernel
theorem d6_3 : decode jdk_65_method_56_code 3 = .ok (.iload_n 2, 1) := by decide +kernel
theorem d6_4 : decode jdk_65_method_56_code 4 = .ok (.iconst 1, 1) := by decide +kernel
theorem d6_5 : decode jdk_65_method_56_code 5 = .ok (.isub, 1) := by decide +kernel
theorem d6_6 : decode jdk_65_method_56_code 6 = .ok (.istore 6, 2) := by decide +kernel
theorem d6_8 : decode jdk_65_method_56_code 8 = .ok (.iload 5, 2) := by decide +kernel
theorem d6_10 : decode jdk_65_method_56_code 10 = .ok (.iload 6, 2) := by decide +kernel
theorem d6_12 : decode jdk_65_method_56_code 12 = .ok (.if_icmp .gt 56, 3) := by decide +kernel
theorem d6_68 : decode jdk_65_method_56_code 68 = .ok (.iload 5, 2) := by decide +kernel
theorem d6_70 : decode jdk_65_method_56_code 70 = .ok (.iconst 1, 1) := by decide +kernel
theorem d6_71 : decode jdk_65_method_56_code 71 = .ok (.iadd, 1) := by decide +kernel
theorem d6_72 : decode jdk_65_method_56_code 72 = .ok (.ineg, 1) := by decide +kernel
theorem d6_73 : decode jdk_65_method_56_code 73 = .ok (.ireturn, 1) := by decide +kernel
theorem ef_rm_bz0 (m : MethodId) (x0 : Addr) (x3 : Int64) : entryFrame m #[(.ref x0), (.int (0 : Int32)), (.int (0 : Int32)), (.long x3)] 10 = mkF m 0 #[.val (.ref x0), .val (.int (0 : Int32)), .val (.int (0 : Int32)), .val (.long x3), .second, .unset, .unset, .unset, .unset, .unset] [] := by first | (simp [entryFrame, mkF, argsToLocals, Value.category]; done) | rfl
def Q_bz0 (Z : State) (oe : Addr) (qk : Int64) (kE : ClassId) (h0 : Heap) (n0 : Nat) (v : Option Value) (h : Heap) (L : List Loc) : Prop := ∃ z : Int32, v = some (.int z) ∧ (z = (-1 : Int32)) ∧ Fr n0 L ∧ h = h0
set_option maxRecDepth 65536 in
set_option maxHeartbeats 40000000 in
theorem rm_bz0 (l : Launch) (Z : State) (a0 : Array Value) (hw : ∀ d ∈ tables_1, d.before a0 Z = true) (ws : List Jvm.Cond) (oe : Addr) (qk : Int64) (kE : ClassId) (h0 : Heap) (n0 : Nat) (Z0 : n0 ≤ h0.size) (Ve : Arv Z h0 oe kE .long (16 : Int32) [(.long (0 : Int64)), (.long (0 : Int64)), (.long (0 : Int64)), (.long (0 : Int64))] (.long (0 : Int64))) :
    MetFree l (⟨"java/util/Arrays", "binarySearch0", "([JIIJ)I"⟩ : MethodName) (head1 (Jvm.Cond.code (⟨"java/util/Arrays", "binarySearch0", "([JIIJ)I"⟩ : MethodName) jdk_65_method_56_code 10 (some .int) :: ws) ({ frames := 0, cells := 0, slots := 0, locals := 0 } : Room)) (fun a U => a = #[(.ref oe), (.int (0 : Int32)), (.int (0 : Int32)), (.long qk)] ∧ Z.Warmed39 U.vm ∧ U.heap = h0) (fun _ _ _ _ _ => True) (fun _ U o U' => ∃ v L, o = .returned v ∧ Q_bz0 Z oe qk kE h0 n0 v U'.heap L ∧ FrameEnd U o U' L ({ frames := 0, cells := 0, slots := 0, locals := 0 } : Room).cells ({ frames := 0, cells := 0, slots := 0, locals := 0 } : Room).slots) := by
  refine MetFree.of_bodySF (plainFor_of_name pn_0) hisR ?_
  intro p e s m args below meth c s₁ Bd hml0 hP hK
  obtain ⟨rfl, hZ, hh⟩ := hP
  have hx := Bd.exec
  have hby := Bd.bytes
  have hml : c.maxLocals = 10 := hml0
  have hown : s.vm.findClass "java/util/Arrays" = some m.cls := findClass_of_methodNamed Bd.named
  have hnm := (name_of_methodNamed Bd.named Bd.method).1
  have X0 : Stand p l e ({ frames := 0, cells := 0, slots := 0, locals := 0 } : Room) s m #[(.ref oe), (.int (0 : Int32)), (.int (0 : Int32)), (.long qk)] below meth c s₁ [] 0 0 := Stand.of_body Bd
  have e0 : s₁.heap = h0 := by rw [← hh, Bd.state]; rfl
  have N0 := Fr.nil n0
  have pre0 : ∀ t, Steps p.tables e below (s₁.setTop (mkF m 0 #[.val (.ref oe), .val (.int (0 : Int32)), .val (.int (0 : Int32)), .val (.long qk), .second, .unset, .unset, .unset, .unset, .unset] [])) t → Steps p.tables e below (s₁.setTop (entryFrame m #[(.ref oe), (.int (0 : Int32)), (.int (0 : Int32)), (.long qk)] 10)) t := fun t k => castTop (ef_rm_bz0 m oe qk) k
  have hc12_1 : (-1 : Int) < (0 : Int) := by decide
  obtain ⟨fs, hr, hrun, hended, hW, hsame⟩ := X0.leave (v := some (.int (-1 : Int32))) (fun h => by rw [Bd.returns] at h; cases h)
  refine ⟨_, _, pre0 _ ?_, hrun, hended, _, _, rfl, ?_, ⟨_, rfl⟩, hW, hsame.mono (by decide) (by decide)⟩
  · refine XS.iloadN X0.here hx rfl (hb hby d6_0) rfl ?_
    refine XS.istore X0.here hx rfl (hb hby d6_1) rfl (l' := #[.val (.ref oe), .val (.int (0 : Int32)), .val (.int (0 : Int32)), .val (.long qk), .second, .val (.int (0 : Int32)), .unset, .unset, .unset, .unset]) rfl ?_
    refine XS.iloadN X0.here hx rfl (hb hby d6_3) rfl ?_
    refine XS.iconst X0.here hx rfl (hb hby d6_4) ?_
    show Steps p.tables e below (s₁.setTop (mkF m 5 #[.val (.ref oe), .val (.int (0 : Int32)), .val (.int (0 : Int32)), .val (.long qk), .second, .val (.int (0 : Int32)), .unset, .unset, .unset, .unset] [(.int (1 : Int32)), (.int (0 : Int32))])) _
    refine XS.isub X0.here hx rfl (hb hby d6_5) rfl ?_
    refine XS.istore X0.here hx rfl (hb hby d6_6) rfl (l' := #[.val (.ref oe), .val (.int (0 : Int32)), .val (.int (0 : Int32)), .val (.long qk), .second, .val (.int (0 : Int32)), .val (.int (-1 : Int32)), .unset, .unset, .unset]) rfl ?_
    refine XS.iload X0.here hx rfl (hb hby d6_8) rfl ?_
    refine XS.iload X0.here hx rfl (hb hby d6_10) rfl ?_
    refine XS.icmpYes X0.here hx rfl (pc0 := 12) (pc' := 68) rfl (hb hby d6_12) rfl (own_tlt (a := (-1 : Int32)) (b := (0 : Int32)) (by decide) (by decide) hc12_1).2.2.1 (by decide) (by decide) ?_
    show Steps p.tables e below (s₁.setTop (mkF m 68 #[.val (.ref oe), .val (.int (0 : Int32)), .val (.int (0 : Int32)), .val (.long qk), .second, .val (.int (0 : Int32)), .val (.int (-1 : Int32)), .unset, .unset, .unset] [])) _
    refine XS.iload X0.here hx rfl (hb hby d6_68) rfl ?_
    refine XS.iconst X0.here hx rfl (hb hby d6_70) ?_
    refine XS.iadd X0.here hx rfl (hb hby d6_71) rfl ?_
    refine XS.ineg X0.here hx rfl (hb hby d6_72) rfl ?_
    exact retI X0 hx Bd.returns (hb hby d6_73) hr
  · show Q_bz0 Z oe qk kE h0 n0 _ s₁.heap _
    rw [e0]
    exact ⟨_, rfl, rfl, N0, rfl⟩
theorem d4_0 : decode jdk_65_method_55_code 0 = .ok (.aload_n 0, 1) := by decide +kernel
theorem d4_1 : decode jdk_65_method_55_code 1 = .ok (.arraylength, 1) := by decide +kernel
theorem d4_2 : decode jdk_65_method_55_code 2 = .ok (.iload_n 1, 1) := by decide +kernel
theorem d4_3 : decode jdk_65_method_55_code 3 = .ok (.iload_n 2, 1) := by decide +kernel
theorem d4_4 : decode jdk_65_method_55_code 4 = .ok (.invokestatic 13, 3) := by decide +kernel
theorem d4_7 : decode jdk_65_method_55_code 7 = .ok (.aload_n 0, 1) := by decide +kernel
theorem d4_8 : decode jdk_65_method_55_code 8 = .ok (.iload_n 1, 1) := by decide +kernel
theorem d4_9 : decode jdk_65_method_55_code 9 = .ok (.iload_n 2, 1) := by decide +kernel
theorem d4_10 : decode jdk_65_method_55_code 10 = .ok (.lload_n 3, 1) := by decide +kernel
theorem d4_11 : decode jdk_65_method_55_code 11 = .ok (.invokestatic 205, 3) := by decide +kernel
theorem d4_14 : decode jdk_65_method_55_code 14 = .ok (.ireturn, 1) := by decide +kernel
theorem ef_rm_bs0 (m : MethodId) (x0 : Addr) (x3 : Int64) : entryFrame m #[(.ref x0), (.int (0 : Int32)), (.int (0 : Int32)), (.long x3)] 5 = mkF m 0 #[.val (.ref x0), .val (.int (0 : Int32)), .val (.int (0 : Int32)), .val (.long x3), .second] [] := by first | (simp [entryFrame, mkF, argsToLocals, Value.category]; done) | rfl
theorem pd_0 : parseMethodDescriptor "(III)V" = some ⟨[.int, .int, .int], none⟩ := by decide +kernel
theorem pd_1 : parseMethodDescriptor "([JIIJ)I" = some ⟨[(.array .long), .int, .int, .long], some .int⟩ := by decide +kernel
def Q_bs0 (Z : State) (oe : Addr) (qk : Int64) (kE : ClassId) (h0 : Heap) (n0 : Nat) (v : Option Value) (h : Heap) (L : List Loc) : Prop := ∃ z : Int32, v = some (.int z) ∧ (z = (-1 : Int32)) ∧ Fr n0 L ∧ h = h0
set_option maxRecDepth 65536 in
set_option maxHeartbeats 40000000 in
theorem rm_bs0 (l : Launch) (Z : State) (a0 : Array Value) (hw : ∀ d ∈ tables_1, d.before a0 Z = true) (ws : List Jvm.Cond) (oe : Addr) (qk : Int64) (kE : ClassId) (h0 : Heap) (n0 : Nat) (Z0 : n0 ≤ h0.size) (Ve : Arv Z h0 oe kE .long (16 : Int32) [(.long (0 : Int64)), (.long (0 : Int64)), (.long (0 : Int64)), (.long (0 : Int64))] (.long (0 : Int64))) :
    MetFree l (⟨"java/util/Arrays", "binarySearch", "([JIIJ)I"⟩ : MethodName) (head1 (Jvm.Cond.code (⟨"java/util/Arrays", "binarySearch", "([JIIJ)I"⟩ : MethodName) jdk_65_method_55_code 5 (some .int) :: ws) ({ frames := 1, cells := 0, slots := 0, locals := 21 } : Room)) (fun a U => a = #[(.ref oe), (.int (0 : Int32)), (.int (0 : Int32)), (.long qk)] ∧ Z.Warmed39 U.vm ∧ U.heap = h0) (fun _ _ _ _ _ => True) (fun _ U o U' => ∃ v L, o = .returned v ∧ Q_bs0 Z oe qk kE h0 n0 v U'.heap L ∧ FrameEnd U o U' L ({ frames := 1, cells := 0, slots := 0, locals := 21 } : Room).cells ({ frames := 1, cells := 0, slots := 0, locals := 21 } : Room).slots) := by
  refine MetFree.of_bodySF (plainFor_of_name pn_0) hisR ?_
  intro p e s m args below meth c s₁ Bd hml0 hP hK
  obtain ⟨rfl, hZ, hh⟩ := hP
  have hx := Bd.exec
  have hby := Bd.bytes
  have hml : c.maxLocals = 5 := hml0
  have hown : s.vm.findClass "java/util/Arrays" = some m.cls := findClass_of_methodNamed Bd.named
  have hnm := (name_of_methodNamed Bd.named Bd.method).1
  have X0 : Stand p l e ({ frames := 1, cells := 0, slots := 0, locals := 21 } : Room) s m #[(.ref oe), (.int (0 : Int32)), (.int (0 : Int32)), (.long qk)] below meth c s₁ [] 0 0 := Stand.of_body Bd
  have e0 : s₁.heap = h0 := by rw [← hh, Bd.state]; rfl
  have N0 := Fr.nil n0
  have pre0 : ∀ t, Steps p.tables e below (s₁.setTop (mkF m 0 #[.val (.ref oe), .val (.int (0 : Int32)), .val (.int (0 : Int32)), .val (.long qk), .second] [])) t → Steps p.tables e below (s₁.setTop (entryFrame m #[(.ref oe), (.int (0 : Int32)), (.int (0 : Int32)), (.long qk)] 5)) t := fun t k => castTop (ef_rm_bs0 m oe qk) k
  obtain ⟨cl1, Ar1, q1, S1, M1, H1, G1⟩ := id Ve
  obtain ⟨_, _, ⟨T2, L2, k2, n2⟩, -, X2, ⟨Lc2, hQ2, l2, y2, z2⟩, st2⟩ := Jvm.LawKit.callS X0 hx (y := (⟨"java/util/Arrays", "rangeCheck", "(III)V"⟩ : MethodName)) hown (mvT hZ (hw _ (List.mem_of_getElem? (i := 25) rfl))) (mvT hZ (hw _ (List.mem_of_getElem? (i := 26) rfl))) (mvT hZ (hw _ (List.mem_of_getElem? (i := 23) rfl))) (mvT hZ (hw _ (List.mem_of_getElem? (i := 27) rfl))) (by decide) (backOf (W := 0) (rm5 l Z a0 hw [] (16 : Int32) (0 : Int32) (0 : Int32) h0 n0 Z0 (by decide) (by decide) (by decide)) hZ (hw _ (List.mem_of_getElem? (i := 27) rfl)) (hw _ (List.mem_of_getElem? (i := 23) rfl)) (by decide) (by decide)) (g := (mkF m 4 #[.val (.ref oe), .val (.int (0 : Int32)), .val (.int (0 : Int32)), .val (.long qk), .second] [(.int (0 : Int32)), (.int (0 : Int32)), (.int (16 : Int32))])) rfl (by rw [hml]; rfl) (argsL := [(.int (16 : Int32)), (.int (0 : Int32)), (.int (0 : Int32))]) (rest := []) (lenOf pd_0 rfl) rfl (by show 2 * 0 + _ ≤ _; exact Nat.le_of_eq rfl) (hb hby d4_4) (fun _ _ => ⟨rfl, e0, (by decide : 0 + 0 ≤ _), (by decide : 0 + 0 ≤ _)⟩)
  dsimp only [Pt.U, Pt.locs, Pt.cells, Pt.slots] at X2 l2 y2 z2 st2 hQ2
  subst l2 y2 z2
  obtain ⟨rfl, N2q, e2⟩ := hQ2
  have N2 := Fr.app N0 N2q
  obtain ⟨_, _, ⟨T3, L3, k3, n3⟩, -, X3, ⟨Lc3, hQ3, l3, y3, z3⟩, st3⟩ := Jvm.LawKit.callS X2 hx (y := (⟨"java/util/Arrays", "binarySearch0", "([JIIJ)I"⟩ : MethodName)) hown (mvT hZ (hw _ (List.mem_of_getElem? (i := 28) rfl))) (mvT hZ (hw _ (List.mem_of_getElem? (i := 29) rfl))) (mvT hZ (hw _ (List.mem_of_getElem? (i := 23) rfl))) (mvT hZ (hw _ (List.mem_of_getElem? (i := 30) rfl))) (by decide) (backOf (W := 0) (rm_bz0 l Z a0 hw [] oe qk kE h0 n0 Z0 Ve) hZ (hw _ (List.mem_of_getElem? (i := 30) rfl)) (hw _ (List.mem_of_getElem? (i := 23) rfl)) (by decide) (by decide)) (g := (mkF m 11 #[.val (.ref oe), .val (.int (0 : Int32)), .val (.int (0 : Int32)), .val (.long qk), .second] [(.long qk), (.int (0 : Int32)), (.int (0 : Int32)), (.ref oe)])) rfl (by rw [hml]; rfl) (argsL := [(.ref oe), (.int (0 : Int32)), (.int (0 : Int32)), (.long qk)]) (rest := []) (lenOf pd_1 rfl) rfl (by show 2 * 0 + _ ≤ _; exact Nat.le_of_eq rfl) (hb hby d4_11) (fun _ _ => ⟨rfl, e2, (by decide : 0 + 0 ≤ _), (by decide : 0 + 0 ≤ _)⟩)
  dsimp only [Pt.U, Pt.locs, Pt.cells, Pt.slots] at X3 l3 y3 z3 st3 hQ3
  subst l3 y3 z3
  obtain ⟨rb, rfl, hrb, N3q, e3⟩ := hQ3
  have N3 := Fr.app N2 N3q
  obtain ⟨fs, hr, hrun, hended, hW, hsame⟩ := X3.leave (v := some (.int rb)) (fun h => by rw [Bd.returns] at h; cases h)
  refine ⟨_, _, pre0 _ ?_, hrun, hended, _, _, rfl, ?_, ⟨_, rfl⟩, hW, hsame.mono (by decide) (by decide)⟩
  · refine XS.aloadN X0.here hx rfl (hb hby d4_0) rfl rfl ?_
    refine X0.arraylength hx (by rw [e0]; exact Ar1.1) (State.isArrayOf_alike hZ.alike Ar1.2.1) (g := (mkF m 1 #[.val (.ref oe), .val (.int (0 : Int32)), .val (.int (0 : Int32)), .val (.long qk), .second] [(.ref oe)])) rfl rfl (hb hby d4_1) _ ?_
    rw [len_of S1 M1]
    refine XS.iloadN X0.here hx rfl (hb hby d4_2) rfl ?_
    refine XS.iloadN X0.here hx rfl (hb hby d4_3) rfl ?_
    show Steps p.tables e below (s₁.setTop (mkF m 4 #[.val (.ref oe), .val (.int (0 : Int32)), .val (.int (0 : Int32)), .val (.long qk), .second] [(.int (0 : Int32)), (.int (0 : Int32)), (.int (16 : Int32))])) _
    refine st2 _ ?_
    refine XS.aloadN X2.here hx rfl (hb hby d4_7) rfl rfl ?_
    refine XS.iloadN X2.here hx rfl (hb hby d4_8) rfl ?_
    refine XS.iloadN X2.here hx rfl (hb hby d4_9) rfl ?_
    refine XS.lloadN X2.here hx rfl (hb hby d4_10) rfl ?_
    show Steps p.tables e below (T2.setTop (mkF m 11 #[.val (.ref oe), .val (.int (0 : Int32)), .val (.int (0 : Int32)), .val (.long qk), .second] [(.long qk), (.int (0 : Int32)), (.int (0 : Int32)), (.ref oe)])) _
    refine st3 _ ?_
    exact retI X3 hx Bd.returns (hb hby d4_14) hr
  · show Q_bs0 Z oe qk kE h0 n0 _ T3.heap _
    rw [e3]
    exact ⟨_, rfl, hrb, N3, rfl⟩
theorem d6_15 : decode jdk_65_method_56_code 15 = .ok (.iload 5, 2) := by decide +kernel
theorem d6_17 : decode jdk_65_method_56_code 17 = .ok (.iload 6, 2) := by decide +kernel
theorem d6_19 : decode jdk_65_method_56_code 19 = .ok (.iadd, 1) := by decide +kernel
theorem d6_20 : decode jdk_65_method_56_code 20 = .ok (.iconst 1, 1) := by decide +kernel
theorem d6_21 : decode jdk_65_method_56_code 21 = .ok (.iushr, 1) := by decide +kernel
theorem d6_22 : decode jdk_65_method_56_code 22 = .ok (.istore 7, 2) := by decide +kernel
theorem d6_24 : decode jdk_65_method_56_code 24 = .ok (.aload_n 0, 1) := by decide +kernel
theorem d6_25 : decode jdk_65_method_56_code 25 = .ok (.iload 7, 2) := by decide +kernel
theorem d6_27 : decode jdk_65_method_56_code 27 = .ok (.laload, 1) := by decide +kernel
theorem d6_28 : decode jdk_65_method_56_code 28 = .ok (.lstore 8, 2) := by decide +kernel
theorem d6_30 : decode jdk_65_method_56_code 30 = .ok (.lload 8, 2) := by decide +kernel
theorem d6_32 : decode jdk_65_method_56_code 32 = .ok (.lload_n 3, 1) := by decide +kernel
theorem d6_33 : decode jdk_65_method_56_code 33 = .ok (.lcmp, 1) := by decide +kernel
theorem d6_34 : decode jdk_65_method_56_code 34 = .ok (.ifCond .ge 12, 3) := by decide +kernel
theorem d6_37 : decode jdk_65_method_56_code 37 = .ok (.iload 7, 2) := by decide +kernel
theorem d6_39 : decode jdk_65_method_56_code 39 = .ok (.iconst 1, 1) := by decide +kernel
theorem d6_40 : decode jdk_65_method_56_code 40 = .ok (.iadd, 1) := by decide +kernel
theorem d6_41 : decode jdk_65_method_56_code 41 = .ok (.istore 5, 2) := by decide +kernel
theorem d6_43 : decode jdk_65_method_56_code 43 = .ok (.goto 22, 3) := by decide +kernel
theorem d6_46 : decode jdk_65_method_56_code 46 = .ok (.lload 8, 2) := by decide +kernel
theorem d6_48 : decode jdk_65_method_56_code 48 = .ok (.lload_n 3, 1) := by decide +kernel
theorem d6_49 : decode jdk_65_method_56_code 49 = .ok (.lcmp, 1) := by decide +kernel
theorem d6_50 : decode jdk_65_method_56_code 50 = .ok (.ifCond .le 12, 3) := by decide +kernel
theorem d6_53 : decode jdk_65_method_56_code 53 = .ok (.iload 7, 2) := by decide +kernel
theorem d6_55 : decode jdk_65_method_56_code 55 = .ok (.iconst 1, 1) := by decide +kernel
theorem d6_56 : decode jdk_65_method_56_code 56 = .ok (.isub, 1) := by decide +kernel
theorem d6_57 : decode jdk_65_method_56_code 57 = .ok (.istore 6, 2) := by decide +kernel
theorem d6_59 : decode jdk_65_method_56_code 59 = .ok (.goto 6, 3) := by decide +kernel
theorem d6_62 : decode jdk_65_method_56_code 62 = .ok (.iload 7, 2) := by decide +kernel
theorem d6_64 : decode jdk_65_method_56_code 64 = .ok (.ireturn, 1) := by decide +kernel
theorem d6_65 : decode jdk_65_method_56_code 65 = .ok (.goto (-57), 3) := by decide +kernel
theorem ef_rm_bz1 (m : MethodId) (x0 : Addr) (x3 : Int64) : entryFrame m #[(.ref x0), (.int (0 : Int32)), (.int (1 : Int32)), (.long x3)] 10 = mkF m 0 #[.val (.ref x0), .val (.int (0 : Int32)), .val (.int (1 : Int32)), .val (.long x3), .second, .unset, .unset, .unset, .unset, .unset] [] := by first | (simp [entryFrame, mkF, argsToLocals, Value.category]; done) | rfl
def Q_bz1 (Z : State) (oe : Addr) (qk : Int64) (kE : ClassId) (x0 : Int64) (h0 : Heap) (n0 : Nat) (v : Option Value) (h : Heap) (L : List Loc) : Prop := ∃ z : Int32, v = some (.int z) ∧ ((z = (0 : Int32) ∧ x0.toInt = qk.toInt) ∨ (z = (-1 : Int32) ∧ qk.toInt < x0.toInt) ∨ (z = (-2 : Int32) ∧ x0.toInt < qk.toInt)) ∧ Fr n0 L ∧ h = h0
set_option maxRecDepth 65536 in
set_option maxHeartbeats 40000000 in
theorem rm_bz1 (l : Launch) (Z : State) (a0 : Array Value) (hw : ∀ d ∈ tables_1, d.before a0 Z = true) (ws : List Jvm.Cond) (oe : Addr) (qk : Int64) (kE : ClassId) (x0 : Int64) (h0 : Heap) (n0 : Nat) (Z0 : n0 ≤ h0.size) (Ve : Arv Z h0 oe kE .long (16 : Int32) [(.long x0), (.long (0 : Int64)), (.long (0 : Int64)), (.long (0 : Int64))] (.long (0 : Int64))) :
    MetFree l (⟨"java/util/Arrays", "binarySearch0", "([JIIJ)I"⟩ : MethodName) (head1 (Jvm.Cond.code (⟨"java/util/Arrays", "binarySearch0", "([JIIJ)I"⟩ : MethodName) jdk_65_method_56_code 10 (some .int) :: ws) ({ frames := 0, cells := 0, slots := 0, locals := 0 } : Room)) (fun a U => a = #[(.ref oe), (.int (0 : Int32)), (.int (1 : Int32)), (.long qk)] ∧ Z.Warmed39 U.vm ∧ U.heap = h0) (fun _ _ _ _ _ => True) (fun _ U o U' => ∃ v L, o = .returned v ∧ Q_bz1 Z oe qk kE x0 h0 n0 v U'.heap L ∧ FrameEnd U o U' L ({ frames := 0, cells := 0, slots := 0, locals := 0 } : Room).cells ({ frames := 0, cells := 0, slots := 0, locals := 0 } : Room).slots) := by
  refine MetFree.of_bodySF (plainFor_of_name pn_0) hisR ?_
  intro p e s m args below meth c s₁ Bd hml0 hP hK
  obtain ⟨rfl, hZ, hh⟩ := hP
  have hx := Bd.exec
  have hby := Bd.bytes
  have hml : c.maxLocals = 10 := hml0
  have hown : s.vm.findClass "java/util/Arrays" = some m.cls := findClass_of_methodNamed Bd.named
  have hnm := (name_of_methodNamed Bd.named Bd.method).1
  have X0 : Stand p l e ({ frames := 0, cells := 0, slots := 0, locals := 0 } : Room) s m #[(.ref oe), (.int (0 : Int32)), (.int (1 : Int32)), (.long qk)] below meth c s₁ [] 0 0 := Stand.of_body Bd
  have e0 : s₁.heap = h0 := by rw [← hh, Bd.state]; rfl
  have N0 := Fr.nil n0
  have pre0 : ∀ t, Steps p.tables e below (s₁.setTop (mkF m 0 #[.val (.ref oe), .val (.int (0 : Int32)), .val (.int (1 : Int32)), .val (.long qk), .second, .unset, .unset, .unset, .unset, .unset] [])) t → Steps p.tables e below (s₁.setTop (entryFrame m #[(.ref oe), (.int (0 : Int32)), (.int (1 : Int32)), (.long qk)] 10)) t := fun t k => castTop (ef_rm_bz1 m oe qk) k
  have hc12_1 : ¬ ((0 : Int) < (0 : Int)) := by decide
  obtain ⟨cl2, Ar2, q2, S2, M2, H2, G2⟩ := id Ve
  have hin2 : ¬ ((0 : Int32) < 0 ∨ cl2.slots.size ≤ ((0 : Int32)).toNatClampNeg) := inb_of S2 ⟨by decide, by decide⟩
  have hat2 : cl2.slots[((0 : Int32)).toNatClampNeg]? = some (.long x0) := Has.at H2 hin2 rfl
  have pre4 : ∀ t, Steps p.tables e below (s₁.setTop (mkF m 34 #[.val (.ref oe), .val (.int (0 : Int32)), .val (.int (1 : Int32)), .val (.long qk), .second, .val (.int (0 : Int32)), .val (.int (0 : Int32)), .val (.int (0 : Int32)), .val (.long x0), .second] [(.int (lcmpW x0 qk))])) t → Steps p.tables e below (s₁.setTop (entryFrame m #[(.ref oe), (.int (0 : Int32)), (.int (1 : Int32)), (.long qk)] 10)) t := fun t kt => by
    refine pre0 _ ?_
    refine XS.iloadN X0.here hx rfl (hb hby d6_0) rfl ?_
    refine XS.istore X0.here hx rfl (hb hby d6_1) rfl (l' := #[.val (.ref oe), .val (.int (0 : Int32)), .val (.int (1 : Int32)), .val (.long qk), .second, .val (.int (0 : Int32)), .unset, .unset, .unset, .unset]) rfl ?_
    refine XS.iloadN X0.here hx rfl (hb hby d6_3) rfl ?_
    refine XS.iconst X0.here hx rfl (hb hby d6_4) ?_
    show Steps p.tables e below (s₁.setTop (mkF m 5 #[.val (.ref oe), .val (.int (0 : Int32)), .val (.int (1 : Int32)), .val (.long qk), .second, .val (.int (0 : Int32)), .unset, .unset, .unset, .unset] [(.int (1 : Int32)), (.int (1 : Int32))])) _
    refine XS.isub X0.here hx rfl (hb hby d6_5) rfl ?_
    refine XS.istore X0.here hx rfl (hb hby d6_6) rfl (l' := #[.val (.ref oe), .val (.int (0 : Int32)), .val (.int (1 : Int32)), .val (.long qk), .second, .val (.int (0 : Int32)), .val (.int (0 : Int32)), .unset, .unset, .unset]) rfl ?_
    refine XS.iload X0.here hx rfl (hb hby d6_8) rfl ?_
    refine XS.iload X0.here hx rfl (hb hby d6_10) rfl ?_
    refine XS.icmpNo X0.here hx rfl (hb hby d6_12) rfl (own_flt (a := (0 : Int32)) (b := (0 : Int32)) (by decide) (by decide) hc12_1).2.2.1 ?_
    show Steps p.tables e below (s₁.setTop (mkF m 15 #[.val (.ref oe), .val (.int (0 : Int32)), .val (.int (1 : Int32)), .val (.long qk), .second, .val (.int (0 : Int32)), .val (.int (0 : Int32)), .unset, .unset, .unset] [])) _
    refine XS.iload X0.here hx rfl (hb hby d6_15) rfl ?_
    refine XS.iload X0.here hx rfl (hb hby d6_17) rfl ?_
    refine XS.iadd X0.here hx rfl (hb hby d6_19) rfl ?_
    refine XS.iconst X0.here hx rfl (hb hby d6_20) ?_
    refine XS.iushr X0.here hx rfl (hb hby d6_21) rfl ?_
    show Steps p.tables e below (s₁.setTop (mkF m 22 #[.val (.ref oe), .val (.int (0 : Int32)), .val (.int (1 : Int32)), .val (.long qk), .second, .val (.int (0 : Int32)), .val (.int (0 : Int32)), .unset, .unset, .unset] [(.int (0 : Int32))])) _
    refine XS.istore X0.here hx rfl (hb hby d6_22) rfl (l' := #[.val (.ref oe), .val (.int (0 : Int32)), .val (.int (1 : Int32)), .val (.long qk), .second, .val (.int (0 : Int32)), .val (.int (0 : Int32)), .val (.int (0 : Int32)), .unset, .unset]) rfl ?_
    refine XS.aloadN X0.here hx rfl (hb hby d6_24) rfl rfl ?_
    refine XS.iload X0.here hx rfl (hb hby d6_25) rfl ?_
    refine X0.laload hx (j := (0 : Int32)) (v := (.long x0)) (by rw [e0]; exact Ar2.1) (State.isArrayOf_alike hZ.alike Ar2.2.1) Ar2.2.2 hin2 hat2 (g := (mkF m 27 #[.val (.ref oe), .val (.int (0 : Int32)), .val (.int (1 : Int32)), .val (.long qk), .second, .val (.int (0 : Int32)), .val (.int (0 : Int32)), .val (.int (0 : Int32)), .unset, .unset] [(.int (0 : Int32)), (.ref oe)])) rfl rfl (hb hby d6_27) _ ?_
    refine XS.lstore X0.here hx rfl (hb hby d6_28) rfl (l' := #[.val (.ref oe), .val (.int (0 : Int32)), .val (.int (1 : Int32)), .val (.long qk), .second, .val (.int (0 : Int32)), .val (.int (0 : Int32)), .val (.int (0 : Int32)), .val (.long x0), .second]) rfl ?_
    show Steps p.tables e below (s₁.setTop (mkF m 30 #[.val (.ref oe), .val (.int (0 : Int32)), .val (.int (1 : Int32)), .val (.long qk), .second, .val (.int (0 : Int32)), .val (.int (0 : Int32)), .val (.int (0 : Int32)), .val (.long x0), .second] [])) _
    refine XS.lload X0.here hx rfl (hb hby d6_30) rfl ?_
    refine XS.lloadN X0.here hx rfl (hb hby d6_32) rfl ?_
    refine XS.lcmp X0.here hx rfl (hb hby d6_33) rfl ?_
    exact kt
  by_cases hc34_3 : x0.toInt < qk.toInt
  · have hc12_5 : (0 : Int) < (1 : Int) := by decide
    obtain ⟨fs, hr, hrun, hended, hW, hsame⟩ := X0.leave (v := some (.int (-2 : Int32))) (fun h => by rw [Bd.returns] at h; cases h)
    refine ⟨_, _, pre4 _ ?_, hrun, hended, _, _, rfl, ?_, ⟨_, rfl⟩, hW, hsame.mono (by decide) (by decide)⟩
    · show Steps p.tables e below (s₁.setTop (mkF m 34 #[.val (.ref oe), .val (.int (0 : Int32)), .val (.int (1 : Int32)), .val (.long qk), .second, .val (.int (0 : Int32)), .val (.int (0 : Int32)), .val (.int (0 : Int32)), .val (.long x0), .second] [(.int (lcmpW x0 qk))])) _
      refine XS.ifNo X0.here hx rfl (hb hby d6_34) rfl (own_if (own_tltL (x := x0) (y := qk) rfl rfl hc34_3).2) ?_
      show Steps p.tables e below (s₁.setTop (mkF m 37 #[.val (.ref oe), .val (.int (0 : Int32)), .val (.int (1 : Int32)), .val (.long qk), .second, .val (.int (0 : Int32)), .val (.int (0 : Int32)), .val (.int (0 : Int32)), .val (.long x0), .second] [])) _
      refine XS.iload X0.here hx rfl (hb hby d6_37) rfl ?_
      refine XS.iconst X0.here hx rfl (hb hby d6_39) ?_
      refine XS.iadd X0.here hx rfl (hb hby d6_40) rfl ?_
      refine XS.istore X0.here hx rfl (hb hby d6_41) rfl (l' := #[.val (.ref oe), .val (.int (0 : Int32)), .val (.int (1 : Int32)), .val (.long qk), .second, .val (.int (1 : Int32)), .val (.int (0 : Int32)), .val (.int (0 : Int32)), .val (.long x0), .second]) rfl ?_
      refine XS.goto X0.here hx rfl (pc0 := 43) (pc' := 65) rfl (hb hby d6_43) (by decide) (by decide) ?_
      show Steps p.tables e below (s₁.setTop (mkF m 65 #[.val (.ref oe), .val (.int (0 : Int32)), .val (.int (1 : Int32)), .val (.long qk), .second, .val (.int (1 : Int32)), .val (.int (0 : Int32)), .val (.int (0 : Int32)), .val (.long x0), .second] [])) _
      refine XS.goto X0.here hx rfl (pc0 := 65) (pc' := 8) rfl (hb hby d6_65) (by decide) (by decide) ?_
      refine XS.iload X0.here hx rfl (hb hby d6_8) rfl ?_
      refine XS.iload X0.here hx rfl (hb hby d6_10) rfl ?_
      refine XS.icmpYes X0.here hx rfl (pc0 := 12) (pc' := 68) rfl (hb hby d6_12) rfl (own_tlt (a := (0 : Int32)) (b := (1 : Int32)) (by decide) (by decide) hc12_5).2.2.1 (by decide) (by decide) ?_
      refine XS.iload X0.here hx rfl (hb hby d6_68) rfl ?_
      show Steps p.tables e below (s₁.setTop (mkF m 70 #[.val (.ref oe), .val (.int (0 : Int32)), .val (.int (1 : Int32)), .val (.long qk), .second, .val (.int (1 : Int32)), .val (.int (0 : Int32)), .val (.int (0 : Int32)), .val (.long x0), .second] [(.int (1 : Int32))])) _
      refine XS.iconst X0.here hx rfl (hb hby d6_70) ?_
      refine XS.iadd X0.here hx rfl (hb hby d6_71) rfl ?_
      refine XS.ineg X0.here hx rfl (hb hby d6_72) rfl ?_
      exact retI X0 hx Bd.returns (hb hby d6_73) hr
    · show Q_bz1 Z oe qk kE x0 h0 n0 _ s₁.heap _
      rw [e0]
      exact ⟨_, rfl, Or.inr (Or.inr (⟨rfl, by omega⟩)), N0, rfl⟩
  · have pre7 : ∀ t, Steps p.tables e below (s₁.setTop (mkF m 50 #[.val (.ref oe), .val (.int (0 : Int32)), .val (.int (1 : Int32)), .val (.long qk), .second, .val (.int (0 : Int32)), .val (.int (0 : Int32)), .val (.int (0 : Int32)), .val (.long x0), .second] [(.int (lcmpW x0 qk))])) t → Steps p.tables e below (s₁.setTop (entryFrame m #[(.ref oe), (.int (0 : Int32)), (.int (1 : Int32)), (.long qk)] 10)) t := fun t kt => by
      refine pre4 _ ?_
      show Steps p.tables e below (s₁.setTop (mkF m 34 #[.val (.ref oe), .val (.int (0 : Int32)), .val (.int (1 : Int32)), .val (.long qk), .second, .val (.int (0 : Int32)), .val (.int (0 : Int32)), .val (.int (0 : Int32)), .val (.long x0), .second] [(.int (lcmpW x0 qk))])) _
      refine XS.ifYes X0.here hx rfl (pc0 := 34) (pc' := 46) rfl (hb hby d6_34) rfl (own_if (own_fltL (x := x0) (y := qk) rfl rfl hc34_3).2) (by decide) (by decide) ?_
      show Steps p.tables e below (s₁.setTop (mkF m 46 #[.val (.ref oe), .val (.int (0 : Int32)), .val (.int (1 : Int32)), .val (.long qk), .second, .val (.int (0 : Int32)), .val (.int (0 : Int32)), .val (.int (0 : Int32)), .val (.long x0), .second] [])) _
      refine XS.lload X0.here hx rfl (hb hby d6_46) rfl ?_
      refine XS.lloadN X0.here hx rfl (hb hby d6_48) rfl ?_
      refine XS.lcmp X0.here hx rfl (hb hby d6_49) rfl ?_
      exact kt
    by_cases hc50_6 : qk.toInt < x0.toInt
    · have hc12_8 : (-1 : Int) < (0 : Int) := by decide
      obtain ⟨fs, hr, hrun, hended, hW, hsame⟩ := X0.leave (v := some (.int (-1 : Int32))) (fun h => by rw [Bd.returns] at h; cases h)
      refine ⟨_, _, pre7 _ ?_, hrun, hended, _, _, rfl, ?_, ⟨_, rfl⟩, hW, hsame.mono (by decide) (by decide)⟩
      · show Steps p.tables e below (s₁.setTop (mkF m 50 #[.val (.ref oe), .val (.int (0 : Int32)), .val (.int (1 : Int32)), .val (.long qk), .second, .val (.int (0 : Int32)), .val (.int (0 : Int32)), .val (.int (0 : Int32)), .val (.long x0), .second] [(.int (lcmpW x0 qk))])) _
        refine XS.ifNo X0.here hx rfl (hb hby d6_50) rfl (own_if (own_tgtL (x := x0) (y := qk) rfl rfl hc50_6).2) ?_
        show Steps p.tables e below (s₁.setTop (mkF m 53 #[.val (.ref oe), .val (.int (0 : Int32)), .val (.int (1 : Int32)), .val (.long qk), .second, .val (.int (0 : Int32)), .val (.int (0 : Int32)), .val (.int (0 : Int32)), .val (.long x0), .second] [])) _
        refine XS.iload X0.here hx rfl (hb hby d6_53) rfl ?_
        refine XS.iconst X0.here hx rfl (hb hby d6_55) ?_
        refine XS.isub X0.here hx rfl (hb hby d6_56) rfl ?_
        refine XS.istore X0.here hx rfl (hb hby d6_57) rfl (l' := #[.val (.ref oe), .val (.int (0 : Int32)), .val (.int (1 : Int32)), .val (.long qk), .second, .val (.int (0 : Int32)), .val (.int (-1 : Int32)), .val (.int (0 : Int32)), .val (.long x0), .second]) rfl ?_
        refine XS.goto X0.here hx rfl (pc0 := 59) (pc' := 65) rfl (hb hby d6_59) (by decide) (by decide) ?_
        show Steps p.tables e below (s₁.setTop (mkF m 65 #[.val (.ref oe), .val (.int (0 : Int32)), .val (.int (1 : Int32)), .val (.long qk), .second, .val (.int (0 : Int32)), .val (.int (-1 : Int32)), .val (.int (0 : Int32)), .val (.long x0), .second] [])) _
        refine XS.goto X0.here hx rfl (pc0 := 65) (pc' := 8) rfl (hb hby d6_65) (by decide) (by decide) ?_
        refine XS.iload X0.here hx rfl (hb hby d6_8) rfl ?_
        refine XS.iload X0.here hx rfl (hb hby d6_10) rfl ?_
        refine XS.icmpYes X0.here hx rfl (pc0 := 12) (pc' := 68) rfl (hb hby d6_12) rfl (own_tlt (a := (-1 : Int32)) (b := (0 : Int32)) (by decide) (by decide) hc12_8).2.2.1 (by decide) (by decide) ?_
        refine XS.iload X0.here hx rfl (hb hby d6_68) rfl ?_
        show Steps p.tables e below (s₁.setTop (mkF m 70 #[.val (.ref oe), .val (.int (0 : Int32)), .val (.int (1 : Int32)), .val (.long qk), .second, .val (.int (0 : Int32)), .val (.int (-1 : Int32)), .val (.int (0 : Int32)), .val (.long x0), .second] [(.int (0 : Int32))])) _
        refine XS.iconst X0.here hx rfl (hb hby d6_70) ?_
        refine XS.iadd X0.here hx rfl (hb hby d6_71) rfl ?_
        refine XS.ineg X0.here hx rfl (hb hby d6_72) rfl ?_
        exact retI X0 hx Bd.returns (hb hby d6_73) hr
      · show Q_bz1 Z oe qk kE x0 h0 n0 _ s₁.heap _
        rw [e0]
        exact ⟨_, rfl, Or.inr (Or.inl ⟨rfl, by omega⟩), N0, rfl⟩
    · obtain ⟨fs, hr, hrun, hended, hW, hsame⟩ := X0.leave (v := some (.int (0 : Int32))) (fun h => by rw [Bd.returns] at h; cases h)
      refine ⟨_, _, pre7 _ ?_, hrun, hended, _, _, rfl, ?_, ⟨_, rfl⟩, hW, hsame.mono (by decide) (by decide)⟩
      · show Steps p.tables e below (s₁.setTop (mkF m 50 #[.val (.ref oe), .val (.int (0 : Int32)), .val (.int (1 : Int32)), .val (.long qk), .second, .val (.int (0 : Int32)), .val (.int (0 : Int32)), .val (.int (0 : Int32)), .val (.long x0), .second] [(.int (lcmpW x0 qk))])) _
        refine XS.ifYes X0.here hx rfl (pc0 := 50) (pc' := 62) rfl (hb hby d6_50) rfl (own_if (own_fgtL (x := x0) (y := qk) rfl rfl hc50_6).2) (by decide) (by decide) ?_
        show Steps p.tables e below (s₁.setTop (mkF m 62 #[.val (.ref oe), .val (.int (0 : Int32)), .val (.int (1 : Int32)), .val (.long qk), .second, .val (.int (0 : Int32)), .val (.int (0 : Int32)), .val (.int (0 : Int32)), .val (.long x0), .second] [])) _
        refine XS.iload X0.here hx rfl (hb hby d6_62) rfl ?_
        exact retI X0 hx Bd.returns (hb hby d6_64) hr
      · show Q_bz1 Z oe qk kE x0 h0 n0 _ s₁.heap _
        rw [e0]
        exact ⟨_, rfl, Or.inl ⟨rfl, by omega⟩, N0, rfl⟩
theorem ef_rm_bs1 (m : MethodId) (x0 : Addr) (x3 : Int64) : entryFrame m #[(.ref x0), (.int (0 : Int32)), (.int (1 : Int32)), (.long x3)] 5 = mkF m 0 #[.val (.ref x0), .val (.int (0 : Int32)), .val (.int (1 : Int32)), .val (.long x3), .second] [] := by first | (simp [entryFrame, mkF, argsToLocals, Value.category]; done) | rfl
def Q_bs1 (Z : State) (oe : Addr) (qk : Int64) (kE : ClassId) (x0 : Int64) (h0 : Heap) (n0 : Nat) (v : Option Value) (h : Heap) (L : List Loc) : Prop := ∃ z : Int32, v = some (.int z) ∧ ((z = (0 : Int32) ∧ x0.toInt = qk.toInt) ∨ (z = (-1 : Int32) ∧ qk.toInt < x0.toInt) ∨ (z = (-2 : Int32) ∧ x0.toInt < qk.toInt)) ∧ Fr n0 L ∧ h = h0
set_option maxRecDepth 65536 in
set_option maxHeartbeats 40000000 in
theorem rm_bs1 (l : Launch) (Z : State) (a0 : Array Value) (hw : ∀ d ∈ tables_1, d.before a0 Z = true) (ws : List Jvm.Cond) (oe : Addr) (qk : Int64) (kE : ClassId) (x0 : Int64) (h0 : Heap) (n0 : Nat) (Z0 : n0 ≤ h0.size) (Ve : Arv Z h0 oe kE .long (16 : Int32) [(.long x0), (.long (0 : Int64)), (.long (0 : Int64)), (.long (0 : Int64))] (.long (0 : Int64))) :
    MetFree l (⟨"java/util/Arrays", "binarySearch", "([JIIJ)I"⟩ : MethodName) (head1 (Jvm.Cond.code (⟨"java/util/Arrays", "binarySearch", "([JIIJ)I"⟩ : MethodName) jdk_65_method_55_code 5 (some .int) :: ws) ({ frames := 1, cells := 0, slots := 0, locals := 21 } : Room)) (fun a U => a = #[(.ref oe), (.int (0 : Int32)), (.int (1 : Int32)), (.long qk)] ∧ Z.Warmed39 U.vm ∧ U.heap = h0) (fun _ _ _ _ _ => True) (fun _ U o U' => ∃ v L, o = .returned v ∧ Q_bs1 Z oe qk kE x0 h0 n0 v U'.heap L ∧ FrameEnd U o U' L ({ frames := 1, cells := 0, slots := 0, locals := 21 } : Room).cells ({ frames := 1, cells := 0, slots := 0, locals := 21 } : Room).slots) := by
  refine MetFree.of_bodySF (plainFor_of_name pn_0) hisR ?_
  intro p e s m args below meth c s₁ Bd hml0 hP hK
  obtain ⟨rfl, hZ, hh⟩ := hP
  have hx := Bd.exec
  have hby := Bd.bytes
  have hml : c.maxLocals = 5 := hml0
  have hown : s.vm.findClass "java/util/Arrays" = some m.cls := findClass_of_methodNamed Bd.named
  have hnm := (name_of_methodNamed Bd.named Bd.method).1
  have X0 : Stand p l e ({ frames := 1, cells := 0, slots := 0, locals := 21 } : Room) s m #[(.ref oe), (.int (0 : Int32)), (.int (1 : Int32)), (.long qk)] below meth c s₁ [] 0 0 := Stand.of_body Bd
  have e0 : s₁.heap = h0 := by rw [← hh, Bd.state]; rfl
  have N0 := Fr.nil n0
  have pre0 : ∀ t, Steps p.tables e below (s₁.setTop (mkF m 0 #[.val (.ref oe), .val (.int (0 : Int32)), .val (.int (1 : Int32)), .val (.long qk), .second] [])) t → Steps p.tables e below (s₁.setTop (entryFrame m #[(.ref oe), (.int (0 : Int32)), (.int (1 : Int32)), (.long qk)] 5)) t := fun t k => castTop (ef_rm_bs1 m oe qk) k
  obtain ⟨cl1, Ar1, q1, S1, M1, H1, G1⟩ := id Ve
  obtain ⟨_, _, ⟨T2, L2, k2, n2⟩, -, X2, ⟨Lc2, hQ2, l2, y2, z2⟩, st2⟩ := Jvm.LawKit.callS X0 hx (y := (⟨"java/util/Arrays", "rangeCheck", "(III)V"⟩ : MethodName)) hown (mvT hZ (hw _ (List.mem_of_getElem? (i := 25) rfl))) (mvT hZ (hw _ (List.mem_of_getElem? (i := 26) rfl))) (mvT hZ (hw _ (List.mem_of_getElem? (i := 23) rfl))) (mvT hZ (hw _ (List.mem_of_getElem? (i := 27) rfl))) (by decide) (backOf (W := 0) (rm5 l Z a0 hw [] (16 : Int32) (0 : Int32) (1 : Int32) h0 n0 Z0 (by decide) (by decide) (by decide)) hZ (hw _ (List.mem_of_getElem? (i := 27) rfl)) (hw _ (List.mem_of_getElem? (i := 23) rfl)) (by decide) (by decide)) (g := (mkF m 4 #[.val (.ref oe), .val (.int (0 : Int32)), .val (.int (1 : Int32)), .val (.long qk), .second] [(.int (1 : Int32)), (.int (0 : Int32)), (.int (16 : Int32))])) rfl (by rw [hml]; rfl) (argsL := [(.int (16 : Int32)), (.int (0 : Int32)), (.int (1 : Int32))]) (rest := []) (lenOf pd_0 rfl) rfl (by show 2 * 0 + _ ≤ _; exact Nat.le_of_eq rfl) (hb hby d4_4) (fun _ _ => ⟨rfl, e0, (by decide : 0 + 0 ≤ _), (by decide : 0 + 0 ≤ _)⟩)
  dsimp only [Pt.U, Pt.locs, Pt.cells, Pt.slots] at X2 l2 y2 z2 st2 hQ2
  subst l2 y2 z2
  obtain ⟨rfl, N2q, e2⟩ := hQ2
  have N2 := Fr.app N0 N2q
  obtain ⟨_, _, ⟨T3, L3, k3, n3⟩, -, X3, ⟨Lc3, hQ3, l3, y3, z3⟩, st3⟩ := Jvm.LawKit.callS X2 hx (y := (⟨"java/util/Arrays", "binarySearch0", "([JIIJ)I"⟩ : MethodName)) hown (mvT hZ (hw _ (List.mem_of_getElem? (i := 28) rfl))) (mvT hZ (hw _ (List.mem_of_getElem? (i := 29) rfl))) (mvT hZ (hw _ (List.mem_of_getElem? (i := 23) rfl))) (mvT hZ (hw _ (List.mem_of_getElem? (i := 30) rfl))) (by decide) (backOf (W := 0) (rm_bz1 l Z a0 hw [] oe qk kE x0 h0 n0 Z0 Ve) hZ (hw _ (List.mem_of_getElem? (i := 30) rfl)) (hw _ (List.mem_of_getElem? (i := 23) rfl)) (by decide) (by decide)) (g := (mkF m 11 #[.val (.ref oe), .val (.int (0 : Int32)), .val (.int (1 : Int32)), .val (.long qk), .second] [(.long qk), (.int (1 : Int32)), (.int (0 : Int32)), (.ref oe)])) rfl (by rw [hml]; rfl) (argsL := [(.ref oe), (.int (0 : Int32)), (.int (1 : Int32)), (.long qk)]) (rest := []) (lenOf pd_1 rfl) rfl (by show 2 * 0 + _ ≤ _; exact Nat.le_of_eq rfl) (hb hby d4_11) (fun _ _ => ⟨rfl, e2, (by decide : 0 + 0 ≤ _), (by decide : 0 + 0 ≤ _)⟩)
  dsimp only [Pt.U, Pt.locs, Pt.cells, Pt.slots] at X3 l3 y3 z3 st3 hQ3
  subst l3 y3 z3
  obtain ⟨rb, rfl, hrb, N3q, e3⟩ := hQ3
  have N3 := Fr.app N2 N3q
  obtain ⟨fs, hr, hrun, hended, hW, hsame⟩ := X3.leave (v := some (.int rb)) (fun h => by rw [Bd.returns] at h; cases h)
  refine ⟨_, _, pre0 _ ?_, hrun, hended, _, _, rfl, ?_, ⟨_, rfl⟩, hW, hsame.mono (by decide) (by decide)⟩
  · refine XS.aloadN X0.here hx rfl (hb hby d4_0) rfl rfl ?_
    refine X0.arraylength hx (by rw [e0]; exact Ar1.1) (State.isArrayOf_alike hZ.alike Ar1.2.1) (g := (mkF m 1 #[.val (.ref oe), .val (.int (0 : Int32)), .val (.int (1 : Int32)), .val (.long qk), .second] [(.ref oe)])) rfl rfl (hb hby d4_1) _ ?_
    rw [len_of S1 M1]
    refine XS.iloadN X0.here hx rfl (hb hby d4_2) rfl ?_
    refine XS.iloadN X0.here hx rfl (hb hby d4_3) rfl ?_
    show Steps p.tables e below (s₁.setTop (mkF m 4 #[.val (.ref oe), .val (.int (0 : Int32)), .val (.int (1 : Int32)), .val (.long qk), .second] [(.int (1 : Int32)), (.int (0 : Int32)), (.int (16 : Int32))])) _
    refine st2 _ ?_
    refine XS.aloadN X2.here hx rfl (hb hby d4_7) rfl rfl ?_
    refine XS.iloadN X2.here hx rfl (hb hby d4_8) rfl ?_
    refine XS.iloadN X2.here hx rfl (hb hby d4_9) rfl ?_
    refine XS.lloadN X2.here hx rfl (hb hby d4_10) rfl ?_
    show Steps p.tables e below (T2.setTop (mkF m 11 #[.val (.ref oe), .val (.int (0 : Int32)), .val (.int (1 : Int32)), .val (.long qk), .second] [(.long qk), (.int (1 : Int32)), (.int (0 : Int32)), (.ref oe)])) _
    refine st3 _ ?_
    exact retI X3 hx Bd.returns (hb hby d4_14) hr
  · show Q_bs1 Z oe qk kE x0 h0 n0 _ T3.heap _
    rw [e3]
    exact ⟨_, rfl, hrb, N3, rfl⟩
theorem ef_rm_bz2 (m : MethodId) (x0 : Addr) (x3 : Int64) : entryFrame m #[(.ref x0), (.int (0 : Int32)), (.int (2 : Int32)), (.long x3)] 10 = mkF m 0 #[.val (.ref x0), .val (.int (0 : Int32)), .val (.int (2 : Int32)), .val (.long x3), .second, .unset, .unset, .unset, .unset, .unset] [] := by first | (simp [entryFrame, mkF, argsToLocals, Value.category]; done) | rfl
def Q_bz2 (Z : State) (oe : Addr) (qk : Int64) (kE : ClassId) (x0 : Int64) (x1 : Int64) (h0 : Heap) (n0 : Nat) (v : Option Value) (h : Heap) (L : List Loc) : Prop := ∃ z : Int32, v = some (.int z) ∧ ((z = (0 : Int32) ∧ x0.toInt = qk.toInt) ∨ (z = (1 : Int32) ∧ x1.toInt = qk.toInt) ∨ (z = (-1 : Int32) ∧ qk.toInt < x0.toInt) ∨ (z = (-2 : Int32) ∧ x0.toInt < qk.toInt ∧ qk.toInt < x1.toInt) ∨ (z = (-3 : Int32) ∧ x1.toInt < qk.toInt)) ∧ Fr n0 L ∧ h = h0
set_option maxRecDepth 65536 in
set_option maxHeartbeats 40000000 in
theorem rm_bz2 (l : Launch) (Z : State) (a0 : Array Value) (hw : ∀ d ∈ tables_1, d.before a0 Z = true) (ws : List Jvm.Cond) (oe : Addr) (qk : Int64) (kE : ClassId) (x0 : Int64) (x1 : Int64) (h0 : Heap) (n0 : Nat) (Z0 : n0 ≤ h0.size) (Ve : Arv Z h0 oe kE .long (16 : Int32) [(.long x0), (.long x1), (.long (0 : Int64)), (.long (0 : Int64))] (.long (0 : Int64))) (os0 : x0.toInt < x1.toInt) :
    MetFree l (⟨"java/util/Arrays", "binarySearch0", "([JIIJ)I"⟩ : MethodName) (head1 (Jvm.Cond.code (⟨"java/util/Arrays", "binarySearch0", "([JIIJ)I"⟩ : MethodName) jdk_65_method_56_code 10 (some .int) :: ws) ({ frames := 0, cells := 0, slots := 0, locals := 0 } : Room)) (fun a U => a = #[(.ref oe), (.int (0 : Int32)), (.int (2 : Int32)), (.long qk)] ∧ Z.Warmed39 U.vm ∧ U.heap = h0) (fun _ _ _ _ _ => True) (fun _ U o U' => ∃ v L, o = .returned v ∧ Q_bz2 Z oe qk kE x0 x1 h0 n0 v U'.heap L ∧ FrameEnd U o U' L ({ frames := 0, cells := 0, slots := 0, locals := 0 } : Room).cells ({ frames := 0, cells := 0, slots := 0, locals := 0 } : Room).slots) := by
  refine MetFree.of_bodySF (plainFor_of_name pn_0) hisR ?_
  intro p e s m args below meth c s₁ Bd hml0 hP hK
  obtain ⟨rfl, hZ, hh⟩ := hP
  have hx := Bd.exec
  have hby := Bd.bytes
  have hml : c.maxLocals = 10 := hml0
  have hown : s.vm.findClass "java/util/Arrays" = some m.cls := findClass_of_methodNamed Bd.named
  have hnm := (name_of_methodNamed Bd.named Bd.method).1
  have X0 : Stand p l e ({ frames := 0, cells := 0, slots := 0, locals := 0 } : Room) s m #[(.ref oe), (.int (0 : Int32)), (.int (2 : Int32)), (.long qk)] below meth c s₁ [] 0 0 := Stand.of_body Bd
  have e0 : s₁.heap = h0 := by rw [← hh, Bd.state]; rfl
  have N0 := Fr.nil n0
  have pre0 : ∀ t, Steps p.tables e below (s₁.setTop (mkF m 0 #[.val (.ref oe), .val (.int (0 : Int32)), .val (.int (2 : Int32)), .val (.long qk), .second, .unset, .unset, .unset, .unset, .unset] [])) t → Steps p.tables e below (s₁.setTop (entryFrame m #[(.ref oe), (.int (0 : Int32)), (.int (2 : Int32)), (.long qk)] 10)) t := fun t k => castTop (ef_rm_bz2 m oe qk) k
  have hc12_1 : ¬ ((1 : Int) < (0 : Int)) := by decide
  obtain ⟨cl2, Ar2, q2, S2, M2, H2, G2⟩ := id Ve
  have hin2 : ¬ ((0 : Int32) < 0 ∨ cl2.slots.size ≤ ((0 : Int32)).toNatClampNeg) := inb_of S2 ⟨by decide, by decide⟩
  have hat2 : cl2.slots[((0 : Int32)).toNatClampNeg]? = some (.long x0) := Has.at H2 hin2 rfl
  have pre4 : ∀ t, Steps p.tables e below (s₁.setTop (mkF m 34 #[.val (.ref oe), .val (.int (0 : Int32)), .val (.int (2 : Int32)), .val (.long qk), .second, .val (.int (0 : Int32)), .val (.int (1 : Int32)), .val (.int (0 : Int32)), .val (.long x0), .second] [(.int (lcmpW x0 qk))])) t → Steps p.tables e below (s₁.setTop (entryFrame m #[(.ref oe), (.int (0 : Int32)), (.int (2 : Int32)), (.long qk)] 10)) t := fun t kt => by
    refine pre0 _ ?_
    refine XS.iloadN X0.here hx rfl (hb hby d6_0) rfl ?_
    refine XS.istore X0.here hx rfl (hb hby d6_1) rfl (l' := #[.val (.ref oe), .val (.int (0 : Int32)), .val (.int (2 : Int32)), .val (.long qk), .second, .val (.int (0 : Int32)), .unset, .unset, .unset, .unset]) rfl ?_
    refine XS.iloadN X0.here hx rfl (hb hby d6_3) rfl ?_
    refine XS.iconst X0.here hx rfl (hb hby d6_4) ?_
    show Steps p.tables e below (s₁.setTop (mkF m 5 #[.val (.ref oe), .val (.int (0 : Int32)), .val (.int (2 : Int32)), .val (.long qk), .second, .val (.int (0 : Int32)), .unset, .unset, .unset, .unset] [(.int (1 : Int32)), (.int (2 : Int32))])) _
    refine XS.isub X0.here hx rfl (hb hby d6_5) rfl ?_
    refine XS.istore X0.here hx rfl (hb hby d6_6) rfl (l' := #[.val (.ref oe), .val (.int (0 : Int32)), .val (.int (2 : Int32)), .val (.long qk), .second, .val (.int (0 : Int32)), .val (.int (1 : Int32)), .unset, .unset, .unset]) rfl ?_
    refine XS.iload X0.here hx rfl (hb hby d6_8) rfl ?_
    refine XS.iload X0.here hx rfl (hb hby d6_10) rfl ?_
    refine XS.icmpNo X0.here hx rfl (hb hby d6_12) rfl (own_flt (a := (1 : Int32)) (b := (0 : Int32)) (by decide) (by decide) hc12_1).2.2.1 ?_
    show Steps p.tables e below (s₁.setTop (mkF m 15 #[.val (.ref oe), .val (.int (0 : Int32)), .val (.int (2 : Int32)), .val (.long qk), .second, .val (.int (0 : Int32)), .val (.int (1 : Int32)), .unset, .unset, .unset] [])) _
    refine XS.iload X0.here hx rfl (hb hby d6_15) rfl ?_
    refine XS.iload X0.here hx rfl (hb hby d6_17) rfl ?_
    refine XS.iadd X0.here hx rfl (hb hby d6_19) rfl ?_
    refine XS.iconst X0.here hx rfl (hb hby d6_20) ?_
    refine XS.iushr X0.here hx rfl (hb hby d6_21) rfl ?_
    show Steps p.tables e below (s₁.setTop (mkF m 22 #[.val (.ref oe), .val (.int (0 : Int32)), .val (.int (2 : Int32)), .val (.long qk), .second, .val (.int (0 : Int32)), .val (.int (1 : Int32)), .unset, .unset, .unset] [(.int (0 : Int32))])) _
    refine XS.istore X0.here hx rfl (hb hby d6_22) rfl (l' := #[.val (.ref oe), .val (.int (0 : Int32)), .val (.int (2 : Int32)), .val (.long qk), .second, .val (.int (0 : Int32)), .val (.int (1 : Int32)), .val (.int (0 : Int32)), .unset, .unset]) rfl ?_
    refine XS.aloadN X0.here hx rfl (hb hby d6_24) rfl rfl ?_
    refine XS.iload X0.here hx rfl (hb hby d6_25) rfl ?_
    refine X0.laload hx (j := (0 : Int32)) (v := (.long x0)) (by rw [e0]; exact Ar2.1) (State.isArrayOf_alike hZ.alike Ar2.2.1) Ar2.2.2 hin2 hat2 (g := (mkF m 27 #[.val (.ref oe), .val (.int (0 : Int32)), .val (.int (2 : Int32)), .val (.long qk), .second, .val (.int (0 : Int32)), .val (.int (1 : Int32)), .val (.int (0 : Int32)), .unset, .unset] [(.int (0 : Int32)), (.ref oe)])) rfl rfl (hb hby d6_27) _ ?_
    refine XS.lstore X0.here hx rfl (hb hby d6_28) rfl (l' := #[.val (.ref oe), .val (.int (0 : Int32)), .val (.int (2 : Int32)), .val (.long qk), .second, .val (.int (0 : Int32)), .val (.int (1 : Int32)), .val (.int (0 : Int32)), .val (.long x0), .second]) rfl ?_
    show Steps p.tables e below (s₁.setTop (mkF m 30 #[.val (.ref oe), .val (.int (0 : Int32)), .val (.int (2 : Int32)), .val (.long qk), .second, .val (.int (0 : Int32)), .val (.int (1 : Int32)), .val (.int (0 : Int32)), .val (.long x0), .second] [])) _
    refine XS.lload X0.here hx rfl (hb hby d6_30) rfl ?_
    refine XS.lloadN X0.here hx rfl (hb hby d6_32) rfl ?_
    refine XS.lcmp X0.here hx rfl (hb hby d6_33) rfl ?_
    exact kt
  by_cases hc34_3 : x0.toInt < qk.toInt
  · have hc12_5 : ¬ ((1 : Int) < (1 : Int)) := by decide
    obtain ⟨cl6, Ar6, q6, S6, M6, H6, G6⟩ := id Ve
    have hin6 : ¬ ((1 : Int32) < 0 ∨ cl6.slots.size ≤ ((1 : Int32)).toNatClampNeg) := inb_of S6 ⟨by decide, by decide⟩
    have hat6 : cl6.slots[((1 : Int32)).toNatClampNeg]? = some (.long x1) := Has.at H6 hin6 rfl
    have pre8 : ∀ t, Steps p.tables e below (s₁.setTop (mkF m 34 #[.val (.ref oe), .val (.int (0 : Int32)), .val (.int (2 : Int32)), .val (.long qk), .second, .val (.int (1 : Int32)), .val (.int (1 : Int32)), .val (.int (1 : Int32)), .val (.long x1), .second] [(.int (lcmpW x1 qk))])) t → Steps p.tables e below (s₁.setTop (entryFrame m #[(.ref oe), (.int (0 : Int32)), (.int (2 : Int32)), (.long qk)] 10)) t := fun t kt => by
      refine pre4 _ ?_
      show Steps p.tables e below (s₁.setTop (mkF m 34 #[.val (.ref oe), .val (.int (0 : Int32)), .val (.int (2 : Int32)), .val (.long qk), .second, .val (.int (0 : Int32)), .val (.int (1 : Int32)), .val (.int (0 : Int32)), .val (.long x0), .second] [(.int (lcmpW x0 qk))])) _
      refine XS.ifNo X0.here hx rfl (hb hby d6_34) rfl (own_if (own_tltL (x := x0) (y := qk) rfl rfl hc34_3).2) ?_
      show Steps p.tables e below (s₁.setTop (mkF m 37 #[.val (.ref oe), .val (.int (0 : Int32)), .val (.int (2 : Int32)), .val (.long qk), .second, .val (.int (0 : Int32)), .val (.int (1 : Int32)), .val (.int (0 : Int32)), .val (.long x0), .second] [])) _
      refine XS.iload X0.here hx rfl (hb hby d6_37) rfl ?_
      refine XS.iconst X0.here hx rfl (hb hby d6_39) ?_
      refine XS.iadd X0.here hx rfl (hb hby d6_40) rfl ?_
      refine XS.istore X0.here hx rfl (hb hby d6_41) rfl (l' := #[.val (.ref oe), .val (.int (0 : Int32)), .val (.int (2 : Int32)), .val (.long qk), .second, .val (.int (1 : Int32)), .val (.int (1 : Int32)), .val (.int (0 : Int32)), .val (.long x0), .second]) rfl ?_
      refine XS.goto X0.here hx rfl (pc0 := 43) (pc' := 65) rfl (hb hby d6_43) (by decide) (by decide) ?_
      show Steps p.tables e below (s₁.setTop (mkF m 65 #[.val (.ref oe), .val (.int (0 : Int32)), .val (.int (2 : Int32)), .val (.long qk), .second, .val (.int (1 : Int32)), .val (.int (1 : Int32)), .val (.int (0 : Int32)), .val (.long x0), .second] [])) _
      refine XS.goto X0.here hx rfl (pc0 := 65) (pc' := 8) rfl (hb hby d6_65) (by decide) (by decide) ?_
      refine XS.iload X0.here hx rfl (hb hby d6_8) rfl ?_
      refine XS.iload X0.here hx rfl (hb hby d6_10) rfl ?_
      refine XS.icmpNo X0.here hx rfl (hb hby d6_12) rfl (own_flt (a := (1 : Int32)) (b := (1 : Int32)) (by decide) (by decide) hc12_5).2.2.1 ?_
      refine XS.iload X0.here hx rfl (hb hby d6_15) rfl ?_
      show Steps p.tables e below (s₁.setTop (mkF m 17 #[.val (.ref oe), .val (.int (0 : Int32)), .val (.int (2 : Int32)), .val (.long qk), .second, .val (.int (1 : Int32)), .val (.int (1 : Int32)), .val (.int (0 : Int32)), .val (.long x0), .second] [(.int (1 : Int32))])) _
      refine XS.iload X0.here hx rfl (hb hby d6_17) rfl ?_
      refine XS.iadd X0.here hx rfl (hb hby d6_19) rfl ?_
      refine XS.iconst X0.here hx rfl (hb hby d6_20) ?_
      refine XS.iushr X0.here hx rfl (hb hby d6_21) rfl ?_
      refine XS.istore X0.here hx rfl (hb hby d6_22) rfl (l' := #[.val (.ref oe), .val (.int (0 : Int32)), .val (.int (2 : Int32)), .val (.long qk), .second, .val (.int (1 : Int32)), .val (.int (1 : Int32)), .val (.int (1 : Int32)), .val (.long x0), .second]) rfl ?_
      show Steps p.tables e below (s₁.setTop (mkF m 24 #[.val (.ref oe), .val (.int (0 : Int32)), .val (.int (2 : Int32)), .val (.long qk), .second, .val (.int (1 : Int32)), .val (.int (1 : Int32)), .val (.int (1 : Int32)), .val (.long x0), .second] [])) _
      refine XS.aloadN X0.here hx rfl (hb hby d6_24) rfl rfl ?_
      refine XS.iload X0.here hx rfl (hb hby d6_25) rfl ?_
      refine X0.laload hx (j := (1 : Int32)) (v := (.long x1)) (by rw [e0]; exact Ar6.1) (State.isArrayOf_alike hZ.alike Ar6.2.1) Ar6.2.2 hin6 hat6 (g := (mkF m 27 #[.val (.ref oe), .val (.int (0 : Int32)), .val (.int (2 : Int32)), .val (.long qk), .second, .val (.int (1 : Int32)), .val (.int (1 : Int32)), .val (.int (1 : Int32)), .val (.long x0), .second] [(.int (1 : Int32)), (.ref oe)])) rfl rfl (hb hby d6_27) _ ?_
      refine XS.lstore X0.here hx rfl (hb hby d6_28) rfl (l' := #[.val (.ref oe), .val (.int (0 : Int32)), .val (.int (2 : Int32)), .val (.long qk), .second, .val (.int (1 : Int32)), .val (.int (1 : Int32)), .val (.int (1 : Int32)), .val (.long x1), .second]) rfl ?_
      refine XS.lload X0.here hx rfl (hb hby d6_30) rfl ?_
      show Steps p.tables e below (s₁.setTop (mkF m 32 #[.val (.ref oe), .val (.int (0 : Int32)), .val (.int (2 : Int32)), .val (.long qk), .second, .val (.int (1 : Int32)), .val (.int (1 : Int32)), .val (.int (1 : Int32)), .val (.long x1), .second] [(.long x1)])) _
      refine XS.lloadN X0.here hx rfl (hb hby d6_32) rfl ?_
      refine XS.lcmp X0.here hx rfl (hb hby d6_33) rfl ?_
      exact kt
    by_cases hc34_7 : x1.toInt < qk.toInt
    · have hc12_9 : (1 : Int) < (2 : Int) := by decide
      obtain ⟨fs, hr, hrun, hended, hW, hsame⟩ := X0.leave (v := some (.int (-3 : Int32))) (fun h => by rw [Bd.returns] at h; cases h)
      refine ⟨_, _, pre8 _ ?_, hrun, hended, _, _, rfl, ?_, ⟨_, rfl⟩, hW, hsame.mono (by decide) (by decide)⟩
      · show Steps p.tables e below (s₁.setTop (mkF m 34 #[.val (.ref oe), .val (.int (0 : Int32)), .val (.int (2 : Int32)), .val (.long qk), .second, .val (.int (1 : Int32)), .val (.int (1 : Int32)), .val (.int (1 : Int32)), .val (.long x1), .second] [(.int (lcmpW x1 qk))])) _
        refine XS.ifNo X0.here hx rfl (hb hby d6_34) rfl (own_if (own_tltL (x := x1) (y := qk) rfl rfl hc34_7).2) ?_
        refine XS.iload X0.here hx rfl (hb hby d6_37) rfl ?_
        show Steps p.tables e below (s₁.setTop (mkF m 39 #[.val (.ref oe), .val (.int (0 : Int32)), .val (.int (2 : Int32)), .val (.long qk), .second, .val (.int (1 : Int32)), .val (.int (1 : Int32)), .val (.int (1 : Int32)), .val (.long x1), .second] [(.int (1 : Int32))])) _
        refine XS.iconst X0.here hx rfl (hb hby d6_39) ?_
        refine XS.iadd X0.here hx rfl (hb hby d6_40) rfl ?_
        refine XS.istore X0.here hx rfl (hb hby d6_41) rfl (l' := #[.val (.ref oe), .val (.int (0 : Int32)), .val (.int (2 : Int32)), .val (.long qk), .second, .val (.int (2 : Int32)), .val (.int (1 : Int32)), .val (.int (1 : Int32)), .val (.long x1), .second]) rfl ?_
        refine XS.goto X0.here hx rfl (pc0 := 43) (pc' := 65) rfl (hb hby d6_43) (by decide) (by decide) ?_
        refine XS.goto X0.here hx rfl (pc0 := 65) (pc' := 8) rfl (hb hby d6_65) (by decide) (by decide) ?_
        show Steps p.tables e below (s₁.setTop (mkF m 8 #[.val (.ref oe), .val (.int (0 : Int32)), .val (.int (2 : Int32)), .val (.long qk), .second, .val (.int (2 : Int32)), .val (.int (1 : Int32)), .val (.int (1 : Int32)), .val (.long x1), .second] [])) _
        refine XS.iload X0.here hx rfl (hb hby d6_8) rfl ?_
        refine XS.iload X0.here hx rfl (hb hby d6_10) rfl ?_
        refine XS.icmpYes X0.here hx rfl (pc0 := 12) (pc' := 68) rfl (hb hby d6_12) rfl (own_tlt (a := (1 : Int32)) (b := (2 : Int32)) (by decide) (by decide) hc12_9).2.2.1 (by decide) (by decide) ?_
        refine XS.iload X0.here hx rfl (hb hby d6_68) rfl ?_
        refine XS.iconst X0.here hx rfl (hb hby d6_70) ?_
        show Steps p.tables e below (s₁.setTop (mkF m 71 #[.val (.ref oe), .val (.int (0 : Int32)), .val (.int (2 : Int32)), .val (.long qk), .second, .val (.int (2 : Int32)), .val (.int (1 : Int32)), .val (.int (1 : Int32)), .val (.long x1), .second] [(.int (1 : Int32)), (.int (2 : Int32))])) _
        refine XS.iadd X0.here hx rfl (hb hby d6_71) rfl ?_
        refine XS.ineg X0.here hx rfl (hb hby d6_72) rfl ?_
        exact retI X0 hx Bd.returns (hb hby d6_73) hr
      · show Q_bz2 Z oe qk kE x0 x1 h0 n0 _ s₁.heap _
        rw [e0]
        exact ⟨_, rfl, Or.inr (Or.inr (Or.inr (Or.inr (⟨rfl, by omega⟩)))), N0, rfl⟩
    · have pre11 : ∀ t, Steps p.tables e below (s₁.setTop (mkF m 50 #[.val (.ref oe), .val (.int (0 : Int32)), .val (.int (2 : Int32)), .val (.long qk), .second, .val (.int (1 : Int32)), .val (.int (1 : Int32)), .val (.int (1 : Int32)), .val (.long x1), .second] [(.int (lcmpW x1 qk))])) t → Steps p.tables e below (s₁.setTop (entryFrame m #[(.ref oe), (.int (0 : Int32)), (.int (2 : Int32)), (.long qk)] 10)) t := fun t kt => by
        refine pre8 _ ?_
        show Steps p.tables e below (s₁.setTop (mkF m 34 #[.val (.ref oe), .val (.int (0 : Int32)), .val (.int (2 : Int32)), .val (.long qk), .second, .val (.int (1 : Int32)), .val (.int (1 : Int32)), .val (.int (1 : Int32)), .val (.long x1), .second] [(.int (lcmpW x1 qk))])) _
        refine XS.ifYes X0.here hx rfl (pc0 := 34) (pc' := 46) rfl (hb hby d6_34) rfl (own_if (own_fltL (x := x1) (y := qk) rfl rfl hc34_7).2) (by decide) (by decide) ?_
        refine XS.lload X0.here hx rfl (hb hby d6_46) rfl ?_
        show Steps p.tables e below (s₁.setTop (mkF m 48 #[.val (.ref oe), .val (.int (0 : Int32)), .val (.int (2 : Int32)), .val (.long qk), .second, .val (.int (1 : Int32)), .val (.int (1 : Int32)), .val (.int (1 : Int32)), .val (.long x1), .second] [(.long x1)])) _
        refine XS.lloadN X0.here hx rfl (hb hby d6_48) rfl ?_
        refine XS.lcmp X0.here hx rfl (hb hby d6_49) rfl ?_
        exact kt
      by_cases hc50_10 : qk.toInt < x1.toInt
      · have hc12_12 : (0 : Int) < (1 : Int) := by decide
        obtain ⟨fs, hr, hrun, hended, hW, hsame⟩ := X0.leave (v := some (.int (-2 : Int32))) (fun h => by rw [Bd.returns] at h; cases h)
        refine ⟨_, _, pre11 _ ?_, hrun, hended, _, _, rfl, ?_, ⟨_, rfl⟩, hW, hsame.mono (by decide) (by decide)⟩
        · show Steps p.tables e below (s₁.setTop (mkF m 50 #[.val (.ref oe), .val (.int (0 : Int32)), .val (.int (2 : Int32)), .val (.long qk), .second, .val (.int (1 : Int32)), .val (.int (1 : Int32)), .val (.int (1 : Int32)), .val (.long x1), .second] [(.int (lcmpW x1 qk))])) _
          refine XS.ifNo X0.here hx rfl (hb hby d6_50) rfl (own_if (own_tgtL (x := x1) (y := qk) rfl rfl hc50_10).2) ?_
          refine XS.iload X0.here hx rfl (hb hby d6_53) rfl ?_
          show Steps p.tables e below (s₁.setTop (mkF m 55 #[.val (.ref oe), .val (.int (0 : Int32)), .val (.int (2 : Int32)), .val (.long qk), .second, .val (.int (1 : Int32)), .val (.int (1 : Int32)), .val (.int (1 : Int32)), .val (.long x1), .second] [(.int (1 : Int32))])) _
          refine XS.iconst X0.here hx rfl (hb hby d6_55) ?_
          refine XS.isub X0.here hx rfl (hb hby d6_56) rfl ?_
          refine XS.istore X0.here hx rfl (hb hby d6_57) rfl (l' := #[.val (.ref oe), .val (.int (0 : Int32)), .val (.int (2 : Int32)), .val (.long qk), .second, .val (.int (1 : Int32)), .val (.int (0 : Int32)), .val (.int (1 : Int32)), .val (.long x1), .second]) rfl ?_
          refine XS.goto X0.here hx rfl (pc0 := 59) (pc' := 65) rfl (hb hby d6_59) (by decide) (by decide) ?_
          refine XS.goto X0.here hx rfl (pc0 := 65) (pc' := 8) rfl (hb hby d6_65) (by decide) (by decide) ?_
          show Steps p.tables e below (s₁.setTop (mkF m 8 #[.val (.ref oe), .val (.int (0 : Int32)), .val (.int (2 : Int32)), .val (.long qk), .second, .val (.int (1 : Int32)), .val (.int (0 : Int32)), .val (.int (1 : Int32)), .val (.long x1), .second] [])) _
          refine XS.iload X0.here hx rfl (hb hby d6_8) rfl ?_
          refine XS.iload X0.here hx rfl (hb hby d6_10) rfl ?_
          refine XS.icmpYes X0.here hx rfl (pc0 := 12) (pc' := 68) rfl (hb hby d6_12) rfl (own_tlt (a := (0 : Int32)) (b := (1 : Int32)) (by decide) (by decide) hc12_12).2.2.1 (by decide) (by decide) ?_
          refine XS.iload X0.here hx rfl (hb hby d6_68) rfl ?_
          refine XS.iconst X0.here hx rfl (hb hby d6_70) ?_
          show Steps p.tables e below (s₁.setTop (mkF m 71 #[.val (.ref oe), .val (.int (0 : Int32)), .val (.int (2 : Int32)), .val (.long qk), .second, .val (.int (1 : Int32)), .val (.int (0 : Int32)), .val (.int (1 : Int32)), .val (.long x1), .second] [(.int (1 : Int32)), (.int (1 : Int32))])) _
          refine XS.iadd X0.here hx rfl (hb hby d6_71) rfl ?_
          refine XS.ineg X0.here hx rfl (hb hby d6_72) rfl ?_
          exact retI X0 hx Bd.returns (hb hby d6_73) hr
        · show Q_bz2 Z oe qk kE x0 x1 h0 n0 _ s₁.heap _
          rw [e0]
          exact ⟨_, rfl, Or.inr (Or.inr (Or.inr (Or.inl ⟨rfl, by omega, by omega⟩))), N0, rfl⟩
      · obtain ⟨fs, hr, hrun, hended, hW, hsame⟩ := X0.leave (v := some (.int (1 : Int32))) (fun h => by rw [Bd.returns] at h; cases h)
        refine ⟨_, _, pre11 _ ?_, hrun, hended, _, _, rfl, ?_, ⟨_, rfl⟩, hW, hsame.mono (by decide) (by decide)⟩
        · show Steps p.tables e below (s₁.setTop (mkF m 50 #[.val (.ref oe), .val (.int (0 : Int32)), .val (.int (2 : Int32)), .val (.long qk), .second, .val (.int (1 : Int32)), .val (.int (1 : Int32)), .val (.int (1 : Int32)), .val (.long x1), .second] [(.int (lcmpW x1 qk))])) _
          refine XS.ifYes X0.here hx rfl (pc0 := 50) (pc' := 62) rfl (hb hby d6_50) rfl (own_if (own_fgtL (x := x1) (y := qk) rfl rfl hc50_10).2) (by decide) (by decide) ?_
          refine XS.iload X0.here hx rfl (hb hby d6_62) rfl ?_
          show Steps p.tables e below (s₁.setTop (mkF m 64 #[.val (.ref oe), .val (.int (0 : Int32)), .val (.int (2 : Int32)), .val (.long qk), .second, .val (.int (1 : Int32)), .val (.int (1 : Int32)), .val (.int (1 : Int32)), .val (.long x1), .second] [(.int (1 : Int32))])) _
          exact retI X0 hx Bd.returns (hb hby d6_64) hr
        · show Q_bz2 Z oe qk kE x0 x1 h0 n0 _ s₁.heap _
          rw [e0]
          exact ⟨_, rfl, Or.inr (Or.inl ⟨rfl, by omega⟩), N0, rfl⟩
  · have pre14 : ∀ t, Steps p.tables e below (s₁.setTop (mkF m 50 #[.val (.ref oe), .val (.int (0 : Int32)), .val (.int (2 : Int32)), .val (.long qk), .second, .val (.int (0 : Int32)), .val (.int (1 : Int32)), .val (.int (0 : Int32)), .val (.long x0), .second] [(.int (lcmpW x0 qk))])) t → Steps p.tables e below (s₁.setTop (entryFrame m #[(.ref oe), (.int (0 : Int32)), (.int (2 : Int32)), (.long qk)] 10)) t := fun t kt => by
      refine pre4 _ ?_
      show Steps p.tables e below (s₁.setTop (mkF m 34 #[.val (.ref oe), .val (.int (0 : Int32)), .val (.int (2 : Int32)), .val (.long qk), .second, .val (.int (0 : Int32)), .val (.int (1 : Int32)), .val (.int (0 : Int32)), .val (.long x0), .second] [(.int (lcmpW x0 qk))])) _
      refine XS.ifYes X0.here hx rfl (pc0 := 34) (pc' := 46) rfl (hb hby d6_34) rfl (own_if (own_fltL (x := x0) (y := qk) rfl rfl hc34_3).2) (by decide) (by decide) ?_
      show Steps p.tables e below (s₁.setTop (mkF m 46 #[.val (.ref oe), .val (.int (0 : Int32)), .val (.int (2 : Int32)), .val (.long qk), .second, .val (.int (0 : Int32)), .val (.int (1 : Int32)), .val (.int (0 : Int32)), .val (.long x0), .second] [])) _
      refine XS.lload X0.here hx rfl (hb hby d6_46) rfl ?_
      refine XS.lloadN X0.here hx rfl (hb hby d6_48) rfl ?_
      refine XS.lcmp X0.here hx rfl (hb hby d6_49) rfl ?_
      exact kt
    by_cases hc50_13 : qk.toInt < x0.toInt
    · have hc12_15 : (-1 : Int) < (0 : Int) := by decide
      obtain ⟨fs, hr, hrun, hended, hW, hsame⟩ := X0.leave (v := some (.int (-1 : Int32))) (fun h => by rw [Bd.returns] at h; cases h)
      refine ⟨_, _, pre14 _ ?_, hrun, hended, _, _, rfl, ?_, ⟨_, rfl⟩, hW, hsame.mono (by decide) (by decide)⟩
      · show Steps p.tables e below (s₁.setTop (mkF m 50 #[.val (.ref oe), .val (.int (0 : Int32)), .val (.int (2 : Int32)), .val (.long qk), .second, .val (.int (0 : Int32)), .val (.int (1 : Int32)), .val (.int (0 : Int32)), .val (.long x0), .second] [(.int (lcmpW x0 qk))])) _
        refine XS.ifNo X0.here hx rfl (hb hby d6_50) rfl (own_if (own_tgtL (x := x0) (y := qk) rfl rfl hc50_13).2) ?_
        show Steps p.tables e below (s₁.setTop (mkF m 53 #[.val (.ref oe), .val (.int (0 : Int32)), .val (.int (2 : Int32)), .val (.long qk), .second, .val (.int (0 : Int32)), .val (.int (1 : Int32)), .val (.int (0 : Int32)), .val (.long x0), .second] [])) _
        refine XS.iload X0.here hx rfl (hb hby d6_53) rfl ?_
        refine XS.iconst X0.here hx rfl (hb hby d6_55) ?_
        refine XS.isub X0.here hx rfl (hb hby d6_56) rfl ?_
        refine XS.istore X0.here hx rfl (hb hby d6_57) rfl (l' := #[.val (.ref oe), .val (.int (0 : Int32)), .val (.int (2 : Int32)), .val (.long qk), .second, .val (.int (0 : Int32)), .val (.int (-1 : Int32)), .val (.int (0 : Int32)), .val (.long x0), .second]) rfl ?_
        refine XS.goto X0.here hx rfl (pc0 := 59) (pc' := 65) rfl (hb hby d6_59) (by decide) (by decide) ?_
        show Steps p.tables e below (s₁.setTop (mkF m 65 #[.val (.ref oe), .val (.int (0 : Int32)), .val (.int (2 : Int32)), .val (.long qk), .second, .val (.int (0 : Int32)), .val (.int (-1 : Int32)), .val (.int (0 : Int32)), .val (.long x0), .second] [])) _
        refine XS.goto X0.here hx rfl (pc0 := 65) (pc' := 8) rfl (hb hby d6_65) (by decide) (by decide) ?_
        refine XS.iload X0.here hx rfl (hb hby d6_8) rfl ?_
        refine XS.iload X0.here hx rfl (hb hby d6_10) rfl ?_
        refine XS.icmpYes X0.here hx rfl (pc0 := 12) (pc' := 68) rfl (hb hby d6_12) rfl (own_tlt (a := (-1 : Int32)) (b := (0 : Int32)) (by decide) (by decide) hc12_15).2.2.1 (by decide) (by decide) ?_
        refine XS.iload X0.here hx rfl (hb hby d6_68) rfl ?_
        show Steps p.tables e below (s₁.setTop (mkF m 70 #[.val (.ref oe), .val (.int (0 : Int32)), .val (.int (2 : Int32)), .val (.long qk), .second, .val (.int (0 : Int32)), .val (.int (-1 : Int32)), .val (.int (0 : Int32)), .val (.long x0), .second] [(.int (0 : Int32))])) _
        refine XS.iconst X0.here hx rfl (hb hby d6_70) ?_
        refine XS.iadd X0.here hx rfl (hb hby d6_71) rfl ?_
        refine XS.ineg X0.here hx rfl (hb hby d6_72) rfl ?_
        exact retI X0 hx Bd.returns (hb hby d6_73) hr
      · show Q_bz2 Z oe qk kE x0 x1 h0 n0 _ s₁.heap _
        rw [e0]
        exact ⟨_, rfl, Or.inr (Or.inr (Or.inl ⟨rfl, by omega⟩)), N0, rfl⟩
    · obtain ⟨fs, hr, hrun, hended, hW, hsame⟩ := X0.leave (v := some (.int (0 : Int32))) (fun h => by rw [Bd.returns] at h; cases h)
      refine ⟨_, _, pre14 _ ?_, hrun, hended, _, _, rfl, ?_, ⟨_, rfl⟩, hW, hsame.mono (by decide) (by decide)⟩
      · show Steps p.tables e below (s₁.setTop (mkF m 50 #[.val (.ref oe), .val (.int (0 : Int32)), .val (.int (2 : Int32)), .val (.long qk), .second, .val (.int (0 : Int32)), .val (.int (1 : Int32)), .val (.int (0 : Int32)), .val (.long x0), .second] [(.int (lcmpW x0 qk))])) _
        refine XS.ifYes X0.here hx rfl (pc0 := 50) (pc' := 62) rfl (hb hby d6_50) rfl (own_if (own_fgtL (x := x0) (y := qk) rfl rfl hc50_13).2) (by decide) (by decide) ?_
        show Steps p.tables e below (s₁.setTop (mkF m 62 #[.val (.ref oe), .val (.int (0 : Int32)), .val (.int (2 : Int32)), .val (.long qk), .second, .val (.int (0 : Int32)), .val (.int (1 : Int32)), .val (.int (0 : Int32)), .val (.long x0), .second] [])) _
        refine XS.iload X0.here hx rfl (hb hby d6_62) rfl ?_
        exact retI X0 hx Bd.returns (hb hby d6_64) hr
      · show Q_bz2 Z oe qk kE x0 x1 h0 n0 _ s₁.heap _
        rw [e0]
        exact ⟨_, rfl, Or.inl ⟨rfl, by omega⟩, N0, rfl⟩
theorem ef_rm_bs2 (m : MethodId) (x0 : Addr) (x3 : Int64) : entryFrame m #[(.ref x0), (.int (0 : Int32)), (.int (2 : Int32)), (.long x3)] 5 = mkF m 0 #[.val (.ref x0), .val (.int (0 : Int32)), .val (.int (2 : Int32)), .val (.long x3), .second] [] := by first | (simp [entryFrame, mkF, argsToLocals, Value.category]; done) | rfl
def Q_bs2 (Z : State) (oe : Addr) (qk : Int64) (kE : ClassId) (x0 : Int64) (x1 : Int64) (h0 : Heap) (n0 : Nat) (v : Option Value) (h : Heap) (L : List Loc) : Prop := ∃ z : Int32, v = some (.int z) ∧ ((z = (0 : Int32) ∧ x0.toInt = qk.toInt) ∨ (z = (1 : Int32) ∧ x1.toInt = qk.toInt) ∨ (z = (-1 : Int32) ∧ qk.toInt < x0.toInt) ∨ (z = (-2 : Int32) ∧ x0.toInt < qk.toInt ∧ qk.toInt < x1.toInt) ∨ (z = (-3 : Int32) ∧ x1.toInt < qk.toInt)) ∧ Fr n0 L ∧ h = h0
set_option maxRecDepth 65536 in
set_option maxHeartbeats 40000000 in
theorem rm_bs2 (l : Launch) (Z : State) (a0 : Array Value) (hw : ∀ d ∈ tables_1, d.before a0 Z = true) (ws : List Jvm.Cond) (oe : Addr) (qk : Int64) (kE : ClassId) (x0 : Int64) (x1 : Int64) (h0 : Heap) (n0 : Nat) (Z0 : n0 ≤ h0.size) (Ve : Arv Z h0 oe kE .long (16 : Int32) [(.long x0), (.long x1), (.long (0 : Int64)), (.long (0 : Int64))] (.long (0 : Int64))) (os0 : x0.toInt < x1.toInt) :
    MetFree l (⟨"java/util/Arrays", "binarySearch", "([JIIJ)I"⟩ : MethodName) (head1 (Jvm.Cond.code (⟨"java/util/Arrays", "binarySearch", "([JIIJ)I"⟩ : MethodName) jdk_65_method_55_code 5 (some .int) :: ws) ({ frames := 1, cells := 0, slots := 0, locals := 21 } : Room)) (fun a U => a = #[(.ref oe), (.int (0 : Int32)), (.int (2 : Int32)), (.long qk)] ∧ Z.Warmed39 U.vm ∧ U.heap = h0) (fun _ _ _ _ _ => True) (fun _ U o U' => ∃ v L, o = .returned v ∧ Q_bs2 Z oe qk kE x0 x1 h0 n0 v U'.heap L ∧ FrameEnd U o U' L ({ frames := 1, cells := 0, slots := 0, locals := 21 } : Room).cells ({ frames := 1, cells := 0, slots := 0, locals := 21 } : Room).slots) := by
  refine MetFree.of_bodySF (plainFor_of_name pn_0) hisR ?_
  intro p e s m args below meth c s₁ Bd hml0 hP hK
  obtain ⟨rfl, hZ, hh⟩ := hP
  have hx := Bd.exec
  have hby := Bd.bytes
  have hml : c.maxLocals = 5 := hml0
  have hown : s.vm.findClass "java/util/Arrays" = some m.cls := findClass_of_methodNamed Bd.named
  have hnm := (name_of_methodNamed Bd.named Bd.method).1
  have X0 : Stand p l e ({ frames := 1, cells := 0, slots := 0, locals := 21 } : Room) s m #[(.ref oe), (.int (0 : Int32)), (.int (2 : Int32)), (.long qk)] below meth c s₁ [] 0 0 := Stand.of_body Bd
  have e0 : s₁.heap = h0 := by rw [← hh, Bd.state]; rfl
  have N0 := Fr.nil n0
  have pre0 : ∀ t, Steps p.tables e below (s₁.setTop (mkF m 0 #[.val (.ref oe), .val (.int (0 : Int32)), .val (.int (2 : Int32)), .val (.long qk), .second] [])) t → Steps p.tables e below (s₁.setTop (entryFrame m #[(.ref oe), (.int (0 : Int32)), (.int (2 : Int32)), (.long qk)] 5)) t := fun t k => castTop (ef_rm_bs2 m oe qk) k
  obtain ⟨cl1, Ar1, q1, S1, M1, H1, G1⟩ := id Ve
  obtain ⟨_, _, ⟨T2, L2, k2, n2⟩, -, X2, ⟨Lc2, hQ2, l2, y2, z2⟩, st2⟩ := Jvm.LawKit.callS X0 hx (y := (⟨"java/util/Arrays", "rangeCheck", "(III)V"⟩ : MethodName)) hown (mvT hZ (hw _ (List.mem_of_getElem? (i := 25) rfl))) (mvT hZ (hw _ (List.mem_of_getElem? (i := 26) rfl))) (mvT hZ (hw _ (List.mem_of_getElem? (i := 23) rfl))) (mvT hZ (hw _ (List.mem_of_getElem? (i := 27) rfl))) (by decide) (backOf (W := 0) (rm5 l Z a0 hw [] (16 : Int32) (0 : Int32) (2 : Int32) h0 n0 Z0 (by decide) (by decide) (by decide)) hZ (hw _ (List.mem_of_getElem? (i := 27) rfl)) (hw _ (List.mem_of_getElem? (i := 23) rfl)) (by decide) (by decide)) (g := (mkF m 4 #[.val (.ref oe), .val (.int (0 : Int32)), .val (.int (2 : Int32)), .val (.long qk), .second] [(.int (2 : Int32)), (.int (0 : Int32)), (.int (16 : Int32))])) rfl (by rw [hml]; rfl) (argsL := [(.int (16 : Int32)), (.int (0 : Int32)), (.int (2 : Int32))]) (rest := []) (lenOf pd_0 rfl) rfl (by show 2 * 0 + _ ≤ _; exact Nat.le_of_eq rfl) (hb hby d4_4) (fun _ _ => ⟨rfl, e0, (by decide : 0 + 0 ≤ _), (by decide : 0 + 0 ≤ _)⟩)
  dsimp only [Pt.U, Pt.locs, Pt.cells, Pt.slots] at X2 l2 y2 z2 st2 hQ2
  subst l2 y2 z2
  obtain ⟨rfl, N2q, e2⟩ := hQ2
  have N2 := Fr.app N0 N2q
  obtain ⟨_, _, ⟨T3, L3, k3, n3⟩, -, X3, ⟨Lc3, hQ3, l3, y3, z3⟩, st3⟩ := Jvm.LawKit.callS X2 hx (y := (⟨"java/util/Arrays", "binarySearch0", "([JIIJ)I"⟩ : MethodName)) hown (mvT hZ (hw _ (List.mem_of_getElem? (i := 28) rfl))) (mvT hZ (hw _ (List.mem_of_getElem? (i := 29) rfl))) (mvT hZ (hw _ (List.mem_of_getElem? (i := 23) rfl))) (mvT hZ (hw _ (List.mem_of_getElem? (i := 30) rfl))) (by decide) (backOf (W := 0) (rm_bz2 l Z a0 hw [] oe qk kE x0 x1 h0 n0 Z0 Ve os0) hZ (hw _ (List.mem_of_getElem? (i := 30) rfl)) (hw _ (List.mem_of_getElem? (i := 23) rfl)) (by decide) (by decide)) (g := (mkF m 11 #[.val (.ref oe), .val (.int (0 : Int32)), .val (.int (2 : Int32)), .val (.long qk), .second] [(.long qk), (.int (2 : Int32)), (.int (0 : Int32)), (.ref oe)])) rfl (by rw [hml]; rfl) (argsL := [(.ref oe), (.int (0 : Int32)), (.int (2 : Int32)), (.long qk)]) (rest := []) (lenOf pd_1 rfl) rfl (by show 2 * 0 + _ ≤ _; exact Nat.le_of_eq rfl) (hb hby d4_11) (fun _ _ => ⟨rfl, e2, (by decide : 0 + 0 ≤ _), (by decide : 0 + 0 ≤ _)⟩)
  dsimp only [Pt.U, Pt.locs, Pt.cells, Pt.slots] at X3 l3 y3 z3 st3 hQ3
  subst l3 y3 z3
  obtain ⟨rb, rfl, hrb, N3q, e3⟩ := hQ3
  have N3 := Fr.app N2 N3q
  obtain ⟨fs, hr, hrun, hended, hW, hsame⟩ := X3.leave (v := some (.int rb)) (fun h => by rw [Bd.returns] at h; cases h)
  refine ⟨_, _, pre0 _ ?_, hrun, hended, _, _, rfl, ?_, ⟨_, rfl⟩, hW, hsame.mono (by decide) (by decide)⟩
  · refine XS.aloadN X0.here hx rfl (hb hby d4_0) rfl rfl ?_
    refine X0.arraylength hx (by rw [e0]; exact Ar1.1) (State.isArrayOf_alike hZ.alike Ar1.2.1) (g := (mkF m 1 #[.val (.ref oe), .val (.int (0 : Int32)), .val (.int (2 : Int32)), .val (.long qk), .second] [(.ref oe)])) rfl rfl (hb hby d4_1) _ ?_
    rw [len_of S1 M1]
    refine XS.iloadN X0.here hx rfl (hb hby d4_2) rfl ?_
    refine XS.iloadN X0.here hx rfl (hb hby d4_3) rfl ?_
    show Steps p.tables e below (s₁.setTop (mkF m 4 #[.val (.ref oe), .val (.int (0 : Int32)), .val (.int (2 : Int32)), .val (.long qk), .second] [(.int (2 : Int32)), (.int (0 : Int32)), (.int (16 : Int32))])) _
    refine st2 _ ?_
    refine XS.aloadN X2.here hx rfl (hb hby d4_7) rfl rfl ?_
    refine XS.iloadN X2.here hx rfl (hb hby d4_8) rfl ?_
    refine XS.iloadN X2.here hx rfl (hb hby d4_9) rfl ?_
    refine XS.lloadN X2.here hx rfl (hb hby d4_10) rfl ?_
    show Steps p.tables e below (T2.setTop (mkF m 11 #[.val (.ref oe), .val (.int (0 : Int32)), .val (.int (2 : Int32)), .val (.long qk), .second] [(.long qk), (.int (2 : Int32)), (.int (0 : Int32)), (.ref oe)])) _
    refine st3 _ ?_
    exact retI X3 hx Bd.returns (hb hby d4_14) hr
  · show Q_bs2 Z oe qk kE x0 x1 h0 n0 _ T3.heap _
    rw [e3]
    exact ⟨_, rfl, hrb, N3, rfl⟩
theorem d1_0 : decode prog_20_method_1_code 0 = .ok (.aload_n 0, 1) := by decide +kernel
theorem d1_1 : decode prog_20_method_1_code 1 = .ok (.invokespecial 1, 3) := by decide +kernel
theorem d1_4 : decode prog_20_method_1_code 4 = .ok (.aload_n 0, 1) := by decide +kernel
theorem d1_5 : decode prog_20_method_1_code 5 = .ok (.bipush 16, 2) := by decide +kernel
theorem d1_7 : decode prog_20_method_1_code 7 = .ok (.newarray .long, 2) := by decide +kernel
theorem d1_9 : decode prog_20_method_1_code 9 = .ok (.putfield 9, 3) := by decide +kernel
theorem d1_12 : decode prog_20_method_1_code 12 = .ok (.aload_n 0, 1) := by decide +kernel
theorem d1_13 : decode prog_20_method_1_code 13 = .ok (.bipush 16, 2) := by decide +kernel
theorem d1_15 : decode prog_20_method_1_code 15 = .ok (.newarray .long, 2) := by decide +kernel
theorem d1_17 : decode prog_20_method_1_code 17 = .ok (.putfield 13, 3) := by decide +kernel
theorem d1_20 : decode prog_20_method_1_code 20 = .ok (.return_, 1) := by decide +kernel
theorem pn_1 : plainName "com/example/foreslot/foreslot/CountsByEnd" = true := by first | (simp [plainName, overriddenIn]; done) | decide +kernel
theorem ef_rm1 (m : MethodId) (x0 : Addr) : entryFrame m #[(.ref x0)] 1 = mkF m 0 #[.val (.ref x0)] [] := by first | (simp [entryFrame, mkF, argsToLocals, Value.category]; done) | rfl
def Q1 (Z : State) (oa : Addr) (h0 : Heap) (n0 : Nat) (v : Option Value) (h : Heap) (L : List Loc) : Prop := v = none ∧ Fr n0 L ∧ Keep h0 h [oa] ∧ Exa Z h oa "com/example/foreslot/foreslot/CountsByEnd" ∧ ∃ (ea ca : Addr) (kE kC : ClassId), n0 ≤ ea ∧ n0 ≤ ca ∧ oa ≠ ea ∧ oa ≠ ca ∧ ea ≠ ca ∧ h0.size ≤ ea ∧ h0.size ≤ ca ∧ Fld Z h oa "com/example/foreslot/foreslot/CountsByEnd" "ends" "[J" (.ref ea) ∧ Fld Z h oa "com/example/foreslot/foreslot/CountsByEnd" "counts" "[J" (.ref ca) ∧ Fld Z h oa "com/example/foreslot/foreslot/CountsByEnd" "size" "I" (.int (0 : Int32)) ∧ Arv Z h ea kE .long (16 : Int32) [(.long (0 : Int64)), (.long (0 : Int64)), (.long (0 : Int64)), (.long (0 : Int64))] (.long (0 : Int64)) ∧ Arv Z h ca kC .long (16 : Int32) [(.long (0 : Int64)), (.long (0 : Int64)), (.long (0 : Int64)), (.long (0 : Int64))] (.long (0 : Int64))
set_option maxRecDepth 65536 in
set_option maxHeartbeats 40000000 in
theorem rm1 (l : Launch) (Z : State) (a0 : Array Value) (hw : ∀ d ∈ tables_1, d.before a0 Z = true) (ws : List Jvm.Cond) (oa : Addr) (h0 : Heap) (n0 : Nat) (Z0 : n0 ≤ h0.size) (Ea : Exa Z h0 oa "com/example/foreslot/foreslot/CountsByEnd") (F0 : Fld Z h0 oa "com/example/foreslot/foreslot/CountsByEnd" "ends" "[J" .null) (F1 : Fld Z h0 oa "com/example/foreslot/foreslot/CountsByEnd" "counts" "[J" .null) (F2 : Fld Z h0 oa "com/example/foreslot/foreslot/CountsByEnd" "size" "I" (.int (0 : Int32))) (ga : n0 ≤ oa) :
    MetFree l (⟨"com/example/foreslot/foreslot/CountsByEnd", "<init>", "()V"⟩ : MethodName) (head1 (Jvm.Cond.code (⟨"com/example/foreslot/foreslot/CountsByEnd", "<init>", "()V"⟩ : MethodName) prog_20_method_1_code 1 none :: ws) ({ frames := 1, cells := 2, slots := 32, locals := 12 } : Room)) (fun a U => a = #[(.ref oa)] ∧ Z.Warmed39 U.vm ∧ U.heap = h0) (fun _ _ _ _ _ => True) (fun _ U o U' => ∃ v L, o = .returned v ∧ Q1 Z oa h0 n0 v U'.heap L ∧ FrameEnd U o U' L ({ frames := 1, cells := 2, slots := 32, locals := 12 } : Room).cells ({ frames := 1, cells := 2, slots := 32, locals := 12 } : Room).slots) := by
  refine MetFree.of_bodySF (plainFor_of_name pn_1) hisR ?_
  intro p e s m args below meth c s₁ Bd hml0 hP hK
  obtain ⟨rfl, hZ, hh⟩ := hP
  have hx := Bd.exec
  have hby := Bd.bytes
  have hml : c.maxLocals = 1 := hml0
  have hown : s.vm.findClass "com/example/foreslot/foreslot/CountsByEnd" = some m.cls := findClass_of_methodNamed Bd.named
  have hnm := (name_of_methodNamed Bd.named Bd.method).1
  have X0 : Stand p l e ({ frames := 1, cells := 2, slots := 32, locals := 12 } : Room) s m #[(.ref oa)] below meth c s₁ [] 0 0 := Stand.of_body Bd
  have e0 : s₁.heap = h0 := by rw [← hh, Bd.state]; rfl
  have N0 := Fr.nil n0
  have pre0 : ∀ t, Steps p.tables e below (s₁.setTop (mkF m 0 #[.val (.ref oa)] [])) t → Steps p.tables e below (s₁.setTop (entryFrame m #[(.ref oa)] 1)) t := fun t k => castTop (ef_rm1 m oa) k
  obtain ⟨T1, X1, e1, st1⟩ := initO X0 hx hZ hown (hw _ (List.mem_of_getElem? (i := 6) rfl)) (hw _ (List.mem_of_getElem? (i := 7) rfl)) (hw _ (List.mem_of_getElem? (i := 8) rfl)) e0 (g := (mkF m 1 #[.val (.ref oa)] [(.ref oa)])) rfl (by rw [hml]; rfl) rfl (hb hby d1_1) (by decide) (W := 0) (by show 2 * 0 + _ ≤ _; exact Nat.le_of_eq rfl) (by decide)
  obtain ⟨T2, h2, k2, X2, e2, E2, A2, st2⟩ := newP X1 hx hZ (hw _ (List.mem_of_getElem? (i := 9) rfl)) e1 (g := (mkF m 7 #[.val (.ref oa)] [(.int (16 : Int32)), (.ref oa)])) rfl (hb hby d1_7) rfl (by decide) (cap := 16) (by decide) (by decide) (by decide) (by decide)
  obtain ⟨b2, g2⟩ : ∃ z, z = h0.size := ⟨_, rfl⟩
  have ne_oa_b2 : oa ≠ b2 := Nat.ne_of_lt (Nat.lt_of_lt_of_le Ea.lt (Nat.le_of_eq g2.symm))
  have g_b2 : n0 ≤ b2 := Nat.le_trans Z0 (Nat.le_of_eq g2.symm)
  have sz_b2 : h0.size ≤ b2 := Nat.le_trans (Keep.refl h0 [oa]).1 (Nat.le_of_eq g2.symm)
  rw [← g2] at A2 st2
  have Zs3 : n0 ≤ h2.size := Nat.le_trans Z0 E2.1
  have V2 : Arv Z h2 b2 k2 .long (16 : Int32) [(.long (0 : Int64)), (.long (0 : Int64)), (.long (0 : Int64)), (.long (0 : Int64))] (.long (0 : Int64)) := (Arv.new A2 (by decide)).pad (pad_rep [] (.long (0 : Int64)) 4)
  have f4 := (F0.ext E2)
  have f5 := (Ea.ext E2)
  obtain ⟨T6, h6, X6, e6, W6, st6⟩ := putF X2 hx hZ hown (host := "") (Or.inl (hw _ (List.mem_of_getElem? (i := 10) rfl))) Via.refl e2 f4 f5 (Or.inl (hw _ (List.mem_of_getElem? (i := 11) rfl))) (hw _ (List.mem_of_getElem? (i := 1) rfl)) (ty := (.array .long)) (by decide) rfl rfl (g := (mkF m 9 #[.val (.ref oa)] [(.ref b2), (.ref oa)])) rfl rfl (hb hby d1_9)
  have N6 := Fr.snoc X6 N0 ga
  have Zs7 : n0 ≤ h6.size := by rw [W6.size]; exact Zs3
  have Fw6 := f4.same W6
  have f8 := (f5.wr W6)
  have f9 := (V2.other W6 (Ne.symm ne_oa_b2))
  obtain ⟨T10, h10, k10, X10, e10, E10, A10, st10⟩ := newP X6 hx hZ (hw _ (List.mem_of_getElem? (i := 9) rfl)) e6 (g := (mkF m 15 #[.val (.ref oa)] [(.int (16 : Int32)), (.ref oa)])) rfl (hb hby d1_15) rfl (by decide) (cap := 16) (by decide) (by decide) (by decide) (by decide)
  obtain ⟨b10, g10⟩ : ∃ z, z = h6.size := ⟨_, rfl⟩
  have ne_oa_b10 : oa ≠ b10 := Nat.ne_of_lt (Nat.lt_of_lt_of_le f8.lt (Nat.le_of_eq g10.symm))
  have ne_b2_b10 : b2 ≠ b10 := Nat.ne_of_lt (Nat.lt_of_lt_of_le f9.lt (Nat.le_of_eq g10.symm))
  have g_b10 : n0 ≤ b10 := Nat.le_trans Zs7 (Nat.le_of_eq g10.symm)
  have f11 := (((Keep.refl h0 [oa]).ext E2).wr W6 (Or.inl (List.mem_of_getElem? (i := 0) rfl)))
  have sz_b10 : h0.size ≤ b10 := Nat.le_trans f11.1 (Nat.le_of_eq g10.symm)
  rw [← g10] at A10 st10
  have Zs12 : n0 ≤ h10.size := Nat.le_trans Zs7 E10.1
  have V10 : Arv Z h10 b10 k10 .long (16 : Int32) [(.long (0 : Int64)), (.long (0 : Int64)), (.long (0 : Int64)), (.long (0 : Int64))] (.long (0 : Int64)) := (Arv.new A10 (by decide)).pad (pad_rep [] (.long (0 : Int64)) 4)
  have f13 := (((F1.ext E2).other W6 (Or.inr (slot_ne (Or.inl (hw _ (List.mem_of_getElem? (i := 13) rfl))) (Or.inl (hw _ (List.mem_of_getElem? (i := 11) rfl))) (by decide) (t := (.array .long)) (t' := (.array .long)) (by decide) (by decide)))).ext E10)
  have f14 := (f8.ext E10)
  obtain ⟨T15, h15, X15, e15, W15, st15⟩ := putF X10 hx hZ hown (host := "") (Or.inl (hw _ (List.mem_of_getElem? (i := 12) rfl))) Via.refl e10 f13 f14 (Or.inl (hw _ (List.mem_of_getElem? (i := 13) rfl))) (hw _ (List.mem_of_getElem? (i := 1) rfl)) (ty := (.array .long)) (by decide) rfl rfl (g := (mkF m 17 #[.val (.ref oa)] [(.ref b10), (.ref oa)])) rfl rfl (hb hby d1_17)
  have N15 := Fr.snoc X15 N6 ga
  have Zs16 : n0 ≤ h15.size := by rw [W15.size]; exact Zs12
  have Fw15 := f13.same W15
  obtain ⟨fs, hr, hrun, hended, hW, hsame⟩ := X15.leave (v := none) (fun _ => rfl)
  refine ⟨_, _, pre0 _ ?_, hrun, hended, _, _, rfl, ?_, ⟨_, rfl⟩, hW, hsame.mono (by decide) (by decide)⟩
  · refine XS.aloadN X0.here hx rfl (hb hby d1_0) rfl rfl ?_
    refine st1 _ ?_
    refine XS.aloadN X1.here hx rfl (hb hby d1_4) rfl rfl ?_
    refine XS.bipush X1.here hx rfl (hb hby d1_5) ?_
    show Steps p.tables e below (T1.setTop (mkF m 7 #[.val (.ref oa)] [(.int (16 : Int32)), (.ref oa)])) _
    refine st2 _ ?_
    refine st6 _ ?_
    refine XS.aloadN X6.here hx rfl (hb hby d1_12) rfl rfl ?_
    refine XS.bipush X6.here hx rfl (hb hby d1_13) ?_
    refine st10 _ ?_
    show Steps p.tables e below (T10.setTop (mkF m 17 #[.val (.ref oa)] [(.ref b10), (.ref oa)])) _
    refine st15 _ ?_
    exact X15.returnOut hx Bd.returns (hb hby d1_20) hr
  · show Q1 Z oa h0 n0 _ T15.heap _
    rw [e15]
    have f17 := ((f11.ext E10).wr W15 (Or.inl (List.mem_of_getElem? (i := 0) rfl)))
    have f18 := (f14.wr W15)
    have f19 := ((Fw6.ext E10).other W15 (Or.inr (slot_ne (Or.inl (hw _ (List.mem_of_getElem? (i := 11) rfl))) (Or.inl (hw _ (List.mem_of_getElem? (i := 13) rfl))) (by decide) (t := (.array .long)) (t' := (.array .long)) (by decide) (by decide))))
    have f20 := ((((F2.ext E2).other W6 (Or.inr (slot_ne (Or.inl (hw _ (List.mem_of_getElem? (i := 20) rfl))) (Or.inl (hw _ (List.mem_of_getElem? (i := 11) rfl))) (by decide) (t := .int) (t' := (.array .long)) (by decide) (by decide)))).ext E10).other W15 (Or.inr (slot_ne (Or.inl (hw _ (List.mem_of_getElem? (i := 20) rfl))) (Or.inl (hw _ (List.mem_of_getElem? (i := 13) rfl))) (by decide) (t := .int) (t' := (.array .long)) (by decide) (by decide))))
    have f21 := ((f9.ext E10).other W15 (Ne.symm ne_oa_b2))
    have f22 := (V10.other W15 (Ne.symm ne_oa_b10))
    exact ⟨rfl, N15, f17, f18, b2, b10, _, _, g_b2, g_b10, ne_oa_b2, ne_oa_b10, ne_b2_b10, sz_b2, sz_b10, f19, Fw15, f20, f21, f22⟩
theorem d3_0 : decode prog_20_method_2_code 0 = .ok (.aload_n 0, 1) := by decide +kernel
theorem d3_1 : decode prog_20_method_2_code 1 = .ok (.getfield 9, 3) := by decide +kernel
theorem d3_4 : decode prog_20_method_2_code 4 = .ok (.iconst 0, 1) := by decide +kernel
theorem d3_5 : decode prog_20_method_2_code 5 = .ok (.aload_n 0, 1) := by decide +kernel
theorem d3_6 : decode prog_20_method_2_code 6 = .ok (.getfield 16, 3) := by decide +kernel
theorem d3_9 : decode prog_20_method_2_code 9 = .ok (.lload_n 1, 1) := by decide +kernel
theorem d3_10 : decode prog_20_method_2_code 10 = .ok (.invokestatic 20, 3) := by decide +kernel
theorem d3_13 : decode prog_20_method_2_code 13 = .ok (.istore 5, 2) := by decide +kernel
theorem d3_15 : decode prog_20_method_2_code 15 = .ok (.iload 5, 2) := by decide +kernel
theorem d3_17 : decode prog_20_method_2_code 17 = .ok (.ifCond .lt 15, 3) := by decide +kernel
theorem d3_32 : decode prog_20_method_2_code 32 = .ok (.iload 5, 2) := by decide +kernel
theorem d3_34 : decode prog_20_method_2_code 34 = .ok (.ineg, 1) := by decide +kernel
theorem d3_35 : decode prog_20_method_2_code 35 = .ok (.iconst 1, 1) := by decide +kernel
theorem d3_36 : decode prog_20_method_2_code 36 = .ok (.isub, 1) := by decide +kernel
theorem d3_37 : decode prog_20_method_2_code 37 = .ok (.istore 5, 2) := by decide +kernel
theorem d3_39 : decode prog_20_method_2_code 39 = .ok (.aload_n 0, 1) := by decide +kernel
theorem d3_40 : decode prog_20_method_2_code 40 = .ok (.getfield 16, 3) := by decide +kernel
theorem d3_43 : decode prog_20_method_2_code 43 = .ok (.aload_n 0, 1) := by decide +kernel
theorem d3_44 : decode prog_20_method_2_code 44 = .ok (.getfield 9, 3) := by decide +kernel
theorem d3_47 : decode prog_20_method_2_code 47 = .ok (.arraylength, 1) := by decide +kernel
theorem d3_48 : decode prog_20_method_2_code 48 = .ok (.if_icmp .ne 37, 3) := by decide +kernel
theorem d3_85 : decode prog_20_method_2_code 85 = .ok (.aload_n 0, 1) := by decide +kernel
theorem d3_86 : decode prog_20_method_2_code 86 = .ok (.getfield 9, 3) := by decide +kernel
theorem d3_89 : decode prog_20_method_2_code 89 = .ok (.iload 5, 2) := by decide +kernel
theorem d3_91 : decode prog_20_method_2_code 91 = .ok (.aload_n 0, 1) := by decide +kernel
theorem d3_92 : decode prog_20_method_2_code 92 = .ok (.getfield 9, 3) := by decide +kernel
theorem d3_95 : decode prog_20_method_2_code 95 = .ok (.iload 5, 2) := by decide +kernel
theorem d3_97 : decode prog_20_method_2_code 97 = .ok (.iconst 1, 1) := by decide +kernel
theorem d3_98 : decode prog_20_method_2_code 98 = .ok (.iadd, 1) := by decide +kernel
theorem d3_99 : decode prog_20_method_2_code 99 = .ok (.aload_n 0, 1) := by decide +kernel
theorem d3_100 : decode prog_20_method_2_code 100 = .ok (.getfield 16, 3) := by decide +kernel
theorem d3_103 : decode prog_20_method_2_code 103 = .ok (.iload 5, 2) := by decide +kernel
theorem d3_105 : decode prog_20_method_2_code 105 = .ok (.isub, 1) := by decide +kernel
theorem d3_106 : decode prog_20_method_2_code 106 = .ok (.invokestatic 30, 3) := by decide +kernel
theorem d3_109 : decode prog_20_method_2_code 109 = .ok (.aload_n 0, 1) := by decide +kernel
theorem d3_110 : decode prog_20_method_2_code 110 = .ok (.getfield 13, 3) := by decide +kernel
theorem d3_113 : decode prog_20_method_2_code 113 = .ok (.iload 5, 2) := by decide +kernel
theorem d3_115 : decode prog_20_method_2_code 115 = .ok (.aload_n 0, 1) := by decide +kernel
theorem d3_116 : decode prog_20_method_2_code 116 = .ok (.getfield 13, 3) := by decide +kernel
theorem d3_119 : decode prog_20_method_2_code 119 = .ok (.iload 5, 2) := by decide +kernel
theorem d3_121 : decode prog_20_method_2_code 121 = .ok (.iconst 1, 1) := by decide +kernel
theorem d3_122 : decode prog_20_method_2_code 122 = .ok (.iadd, 1) := by decide +kernel
theorem d3_123 : decode prog_20_method_2_code 123 = .ok (.aload_n 0, 1) := by decide +kernel
theorem d3_124 : decode prog_20_method_2_code 124 = .ok (.getfield 16, 3) := by decide +kernel
theorem d3_127 : decode prog_20_method_2_code 127 = .ok (.iload 5, 2) := by decide +kernel
theorem d3_129 : decode prog_20_method_2_code 129 = .ok (.isub, 1) := by decide +kernel
theorem d3_130 : decode prog_20_method_2_code 130 = .ok (.invokestatic 30, 3) := by decide +kernel
theorem d3_133 : decode prog_20_method_2_code 133 = .ok (.aload_n 0, 1) := by decide +kernel
theorem d3_134 : decode prog_20_method_2_code 134 = .ok (.getfield 9, 3) := by decide +kernel
theorem d3_137 : decode prog_20_method_2_code 137 = .ok (.iload 5, 2) := by decide +kernel
theorem d3_139 : decode prog_20_method_2_code 139 = .ok (.lload_n 1, 1) := by decide +kernel
theorem d3_140 : decode prog_20_method_2_code 140 = .ok (.lastore, 1) := by decide +kernel
theorem d3_141 : decode prog_20_method_2_code 141 = .ok (.aload_n 0, 1) := by decide +kernel
theorem d3_142 : decode prog_20_method_2_code 142 = .ok (.getfield 13, 3) := by decide +kernel
theorem d3_145 : decode prog_20_method_2_code 145 = .ok (.iload 5, 2) := by decide +kernel
theorem d3_147 : decode prog_20_method_2_code 147 = .ok (.lload_n 3, 1) := by decide +kernel
theorem d3_148 : decode prog_20_method_2_code 148 = .ok (.lastore, 1) := by decide +kernel
theorem d3_149 : decode prog_20_method_2_code 149 = .ok (.aload_n 0, 1) := by decide +kernel
theorem d3_150 : decode prog_20_method_2_code 150 = .ok (.dup, 1) := by decide +kernel
theorem d3_151 : decode prog_20_method_2_code 151 = .ok (.getfield 16, 3) := by decide +kernel
theorem d3_154 : decode prog_20_method_2_code 154 = .ok (.iconst 1, 1) := by decide +kernel
theorem d3_155 : decode prog_20_method_2_code 155 = .ok (.iadd, 1) := by decide +kernel
theorem d3_156 : decode prog_20_method_2_code 156 = .ok (.putfield 16, 3) := by decide +kernel
theorem d3_159 : decode prog_20_method_2_code 159 = .ok (.return_, 1) := by decide +kernel
theorem ef_rm_add0 (m : MethodId) (x0 : Addr) (x1 : Int64) (x2 : Int64) : entryFrame m #[(.ref x0), (.long x1), (.long x2)] 6 = mkF m 0 #[.val (.ref x0), .val (.long x1), .second, .val (.long x2), .second, .unset] [] := by first | (simp [entryFrame, mkF, argsToLocals, Value.category]; done) | rfl
def Q_add0 (Z : State) (oa : Addr) (qe : Int64) (qc : Int64) (ea : Addr) (ca : Addr) (kE : ClassId) (kC : ClassId) (h0 : Heap) (n0 : Nat) (v : Option Value) (h : Heap) (L : List Loc) : Prop := v = none ∧ Fr n0 L ∧ Keep h0 h [oa, ea, ca] ∧ Exa Z h oa "com/example/foreslot/foreslot/CountsByEnd" ∧ Fld Z h oa "com/example/foreslot/foreslot/CountsByEnd" "ends" "[J" (.ref ea) ∧ Fld Z h oa "com/example/foreslot/foreslot/CountsByEnd" "counts" "[J" (.ref ca) ∧ ((∃ y0 d0 : Int64, Fld Z h oa "com/example/foreslot/foreslot/CountsByEnd" "size" "I" (.int (1 : Int32)) ∧ Arv Z h ea kE .long (16 : Int32) [(.long y0), (.long (0 : Int64)), (.long (0 : Int64)), (.long (0 : Int64))] (.long (0 : Int64)) ∧ Arv Z h ca kC .long (16 : Int32) [(.long d0), (.long (0 : Int64)), (.long (0 : Int64)), (.long (0 : Int64))] (.long (0 : Int64)) ∧ 1 ≤ d0.toInt ∧ d0.toInt = qc.toInt ∧ (∀ s : Int, own_f y0.toInt s d0.toInt = own_f qe.toInt s qc.toInt)))
set_option maxRecDepth 65536 in
set_option maxHeartbeats 40000000 in
theorem rm_add0 (l : Launch) (Z : State) (a0 : Array Value) (hw : ∀ d ∈ tables_1, d.before a0 Z = true) (ws : List Jvm.Cond) (oa : Addr) (qe : Int64) (qc : Int64) (ea : Addr) (ca : Addr) (kE : ClassId) (kC : ClassId) (h0 : Heap) (n0 : Nat) (Z0 : n0 ≤ h0.size) (Ea : Exa Z h0 oa "com/example/foreslot/foreslot/CountsByEnd") (F0 : Fld Z h0 oa "com/example/foreslot/foreslot/CountsByEnd" "ends" "[J" (.ref ea)) (F1 : Fld Z h0 oa "com/example/foreslot/foreslot/CountsByEnd" "counts" "[J" (.ref ca)) (F2 : Fld Z h0 oa "com/example/foreslot/foreslot/CountsByEnd" "size" "I" (.int (0 : Int32))) (V0 : Arv Z h0 ea kE .long (16 : Int32) [(.long (0 : Int64)), (.long (0 : Int64)), (.long (0 : Int64)), (.long (0 : Int64))] (.long (0 : Int64))) (V1 : Arv Z h0 ca kC .long (16 : Int32) [(.long (0 : Int64)), (.long (0 : Int64)), (.long (0 : Int64)), (.long (0 : Int64))] (.long (0 : Int64))) (ga : n0 ≤ oa) (ge : n0 ≤ ea) (gc : n0 ≤ ca) (nae : oa ≠ ea) (nac : oa ≠ ca) (nec : ea ≠ ca) (kq : 1 ≤ qc.toInt) (kt : qc.toInt ≤ 100000) :
    MetFree l (⟨"com/example/foreslot/foreslot/CountsByEnd", "add", "(JJ)V"⟩ : MethodName) (head1 (Jvm.Cond.code (⟨"com/example/foreslot/foreslot/CountsByEnd", "add", "(JJ)V"⟩ : MethodName) prog_20_method_2_code 6 none :: ws) ({ frames := 2, cells := 0, slots := 0, locals := 37 } : Room)) (fun a U => a = #[(.ref oa), (.long qe), (.long qc)] ∧ Z.Warmed39 U.vm ∧ U.heap = h0) (fun _ _ _ _ _ => True) (fun _ U o U' => ∃ v L, o = .returned v ∧ Q_add0 Z oa qe qc ea ca kE kC h0 n0 v U'.heap L ∧ FrameEnd U o U' L ({ frames := 2, cells := 0, slots := 0, locals := 37 } : Room).cells ({ frames := 2, cells := 0, slots := 0, locals := 37 } : Room).slots) := by
  refine MetFree.of_bodySF (plainFor_of_name pn_1) hisR ?_
  intro p e s m args below meth c s₁ Bd hml0 hP hK
  obtain ⟨rfl, hZ, hh⟩ := hP
  have hx := Bd.exec
  have hby := Bd.bytes
  have hml : c.maxLocals = 6 := hml0
  have hown : s.vm.findClass "com/example/foreslot/foreslot/CountsByEnd" = some m.cls := findClass_of_methodNamed Bd.named
  have hnm := (name_of_methodNamed Bd.named Bd.method).1
  have X0 : Stand p l e ({ frames := 2, cells := 0, slots := 0, locals := 37 } : Room) s m #[(.ref oa), (.long qe), (.long qc)] below meth c s₁ [] 0 0 := Stand.of_body Bd
  have e0 : s₁.heap = h0 := by rw [← hh, Bd.state]; rfl
  have N0 := Fr.nil n0
  have pre0 : ∀ t, Steps p.tables e below (s₁.setTop (mkF m 0 #[.val (.ref oa), .val (.long qe), .second, .val (.long qc), .second, .unset] [])) t → Steps p.tables e below (s₁.setTop (entryFrame m #[(.ref oa), (.long qe), (.long qc)] 6)) t := fun t k => castTop (ef_rm_add0 m oa qe qc) k
  obtain ⟨T1, X1, e1, st1⟩ := getF X0 hx hZ hown (host := "") (Or.inl (hw _ (List.mem_of_getElem? (i := 10) rfl))) Via.refl e0 F0 (g := (mkF m 1 #[.val (.ref oa), .val (.long qe), .second, .val (.long qc), .second, .unset] [(.ref oa)])) rfl rfl (hb hby d3_1)
  obtain ⟨T2, X2, e2, st2⟩ := getF X1 hx hZ hown (host := "") (Or.inl (hw _ (List.mem_of_getElem? (i := 19) rfl))) Via.refl e1 F2 (g := (mkF m 6 #[.val (.ref oa), .val (.long qe), .second, .val (.long qc), .second, .unset] [(.ref oa), (.int (0 : Int32)), (.ref ea)])) rfl rfl (hb hby d3_6)
  obtain ⟨_, _, ⟨T3, L3, k3, n3⟩, -, X3, ⟨Lc3, hQ3, l3, y3, z3⟩, st3⟩ := Jvm.LawKit.callS X2 hx (y := (⟨"java/util/Arrays", "binarySearch", "([JIIJ)I"⟩ : MethodName)) hown (mvT hZ (hw _ (List.mem_of_getElem? (i := 21) rfl))) (mvT hZ (hw _ (List.mem_of_getElem? (i := 22) rfl))) (mvT hZ (hw _ (List.mem_of_getElem? (i := 23) rfl))) (mvT hZ (hw _ (List.mem_of_getElem? (i := 24) rfl))) (by decide) (backOf (W := 0) (rm_bs0 l Z a0 hw [] ea qe kE h0 n0 Z0 V0) hZ (hw _ (List.mem_of_getElem? (i := 24) rfl)) (hw _ (List.mem_of_getElem? (i := 23) rfl)) (by decide) (by decide)) (g := (mkF m 10 #[.val (.ref oa), .val (.long qe), .second, .val (.long qc), .second, .unset] [(.long qe), (.int (0 : Int32)), (.int (0 : Int32)), (.ref ea)])) rfl (by rw [hml]; rfl) (argsL := [(.ref ea), (.int (0 : Int32)), (.int (0 : Int32)), (.long qe)]) (rest := []) (lenOf pd_1 rfl) rfl (by show 2 * 0 + _ ≤ _; exact Nat.le_of_eq rfl) (hb hby d3_10) (fun _ _ => ⟨rfl, e2, (by decide : 0 + 0 ≤ _), (by decide : 0 + 0 ≤ _)⟩)
  dsimp only [Pt.U, Pt.locs, Pt.cells, Pt.slots] at X3 l3 y3 z3 st3 hQ3
  subst l3 y3 z3
  obtain ⟨rb, rfl, hrb, N3q, e3⟩ := hQ3
  have N3 := Fr.app N0 N3q
  have pre4 : ∀ t, Steps p.tables e below (T3.setTop (mkF m 13 #[.val (.ref oa), .val (.long qe), .second, .val (.long qc), .second, .unset] [(.int rb)])) t → Steps p.tables e below (s₁.setTop (entryFrame m #[(.ref oa), (.long qe), (.long qc)] 6)) t := fun t kt => by
    refine pre0 _ ?_
    refine XS.aloadN X0.here hx rfl (hb hby d3_0) rfl rfl ?_
    refine st1 _ ?_
    refine XS.iconst X1.here hx rfl (hb hby d3_4) ?_
    refine XS.aloadN X1.here hx rfl (hb hby d3_5) rfl rfl ?_
    show Steps p.tables e below (T1.setTop (mkF m 6 #[.val (.ref oa), .val (.long qe), .second, .val (.long qc), .second, .unset] [(.ref oa), (.int (0 : Int32)), (.ref ea)])) _
    refine st2 _ ?_
    refine XS.lloadN X2.here hx rfl (hb hby d3_9) rfl ?_
    refine st3 _ ?_
    exact kt
  rcases hrb with rfl
  have pre5 : ∀ t, Steps p.tables e below (T3.setTop (mkF m 13 #[.val (.ref oa), .val (.long qe), .second, .val (.long qc), .second, .unset] [(.int (-1 : Int32))])) t → Steps p.tables e below (s₁.setTop (entryFrame m #[(.ref oa), (.long qe), (.long qc)] 6)) t := pre4
  have hc17_6 : (-1 : Int) < (0 : Int) := by decide
  obtain ⟨T7, X7, e7, st7⟩ := getF X3 hx hZ hown (host := "") (Or.inl (hw _ (List.mem_of_getElem? (i := 19) rfl))) Via.refl e3 F2 (g := (mkF m 40 #[.val (.ref oa), .val (.long qe), .second, .val (.long qc), .second, .val (.int (0 : Int32))] [(.ref oa)])) rfl rfl (hb hby d3_40)
  obtain ⟨T8, X8, e8, st8⟩ := getF X7 hx hZ hown (host := "") (Or.inl (hw _ (List.mem_of_getElem? (i := 10) rfl))) Via.refl e7 F0 (g := (mkF m 44 #[.val (.ref oa), .val (.long qe), .second, .val (.long qc), .second, .val (.int (0 : Int32))] [(.ref oa), (.int (0 : Int32))])) rfl rfl (hb hby d3_44)
  obtain ⟨cl9, Ar9, q9, S9, M9, H9, G9⟩ := id V0
  have hc48_10 : ¬ ((0 : Int) = (16 : Int)) := by decide
  obtain ⟨T11, X11, e11, st11⟩ := getF X8 hx hZ hown (host := "") (Or.inl (hw _ (List.mem_of_getElem? (i := 10) rfl))) Via.refl e8 F0 (g := (mkF m 86 #[.val (.ref oa), .val (.long qe), .second, .val (.long qc), .second, .val (.int (0 : Int32))] [(.ref oa)])) rfl rfl (hb hby d3_86)
  obtain ⟨T12, X12, e12, st12⟩ := getF X11 hx hZ hown (host := "") (Or.inl (hw _ (List.mem_of_getElem? (i := 10) rfl))) Via.refl e11 F0 (g := (mkF m 92 #[.val (.ref oa), .val (.long qe), .second, .val (.long qc), .second, .val (.int (0 : Int32))] [(.ref oa), (.int (0 : Int32)), (.ref ea)])) rfl rfl (hb hby d3_92)
  obtain ⟨T13, X13, e13, st13⟩ := getF X12 hx hZ hown (host := "") (Or.inl (hw _ (List.mem_of_getElem? (i := 19) rfl))) Via.refl e12 F2 (g := (mkF m 100 #[.val (.ref oa), .val (.long qe), .second, .val (.long qc), .second, .val (.int (0 : Int32))] [(.ref oa), (.int (1 : Int32)), (.ref ea), (.int (0 : Int32)), (.ref ea)])) rfl rfl (hb hby d3_100)
  obtain ⟨T14, h14, L14, X14, e14, N14, K14, V14, st14⟩ := cpA X13 hx hZ hown (hw _ (List.mem_of_getElem? (i := 31) rfl)) (hw _ (List.mem_of_getElem? (i := 34) rfl)) (hw _ (List.mem_of_getElem? (i := 32) rfl)) (hw _ (List.mem_of_getElem? (i := 33) rfl)) e13 V0 V0 (Or.inl ⟨rfl, rfl⟩) (by decide : ¬ (0 : Int32) < 0) (by decide : ¬ (1 : Int32) < 0) (by decide : ¬ (0 : Int32) < 0) (by decide) (by decide) (us := []) rfl (Nat.le_of_ble_eq_true rfl) N3 ge (g := (mkF m 106 #[.val (.ref oa), .val (.long qe), .second, .val (.long qc), .second, .val (.int (0 : Int32))] [(.int (0 : Int32)), (.int (1 : Int32)), (.ref ea), (.int (0 : Int32)), (.ref ea)])) rfl (by rw [hml]; rfl) (rest := []) rfl (hb hby d3_106) (by decide) (W := 0) (by show 2 * 0 + _ ≤ _; exact Nat.le_of_eq rfl) (by decide)
  have Zs15 : n0 ≤ h14.size := Nat.le_trans Z0 K14.1
  have Vc14 : Arv Z h14 ea kE .long (16 : Int32) [(.long (0 : Int64)), (.long (0 : Int64)), (.long (0 : Int64)), (.long (0 : Int64))] (.long (0 : Int64)) := V14
  have f16 := (F1.keep K14 (ninS nae nin0))
  obtain ⟨T17, X17, e17, st17⟩ := getF X14 hx hZ hown (host := "") (Or.inl (hw _ (List.mem_of_getElem? (i := 12) rfl))) Via.refl e14 f16 (g := (mkF m 110 #[.val (.ref oa), .val (.long qe), .second, .val (.long qc), .second, .val (.int (0 : Int32))] [(.ref oa)])) rfl rfl (hb hby d3_110)
  obtain ⟨T18, X18, e18, st18⟩ := getF X17 hx hZ hown (host := "") (Or.inl (hw _ (List.mem_of_getElem? (i := 12) rfl))) Via.refl e17 f16 (g := (mkF m 116 #[.val (.ref oa), .val (.long qe), .second, .val (.long qc), .second, .val (.int (0 : Int32))] [(.ref oa), (.int (0 : Int32)), (.ref ca)])) rfl rfl (hb hby d3_116)
  have f19 := (F2.keep K14 (ninS nae nin0))
  obtain ⟨T20, X20, e20, st20⟩ := getF X18 hx hZ hown (host := "") (Or.inl (hw _ (List.mem_of_getElem? (i := 19) rfl))) Via.refl e18 f19 (g := (mkF m 124 #[.val (.ref oa), .val (.long qe), .second, .val (.long qc), .second, .val (.int (0 : Int32))] [(.ref oa), (.int (1 : Int32)), (.ref ca), (.int (0 : Int32)), (.ref ca)])) rfl rfl (hb hby d3_124)
  have f21 := (V1.keep K14 (ninS (Ne.symm nec) nin0))
  obtain ⟨T22, h22, L22, X22, e22, N22, K22, V22, st22⟩ := cpA X20 hx hZ hown (hw _ (List.mem_of_getElem? (i := 31) rfl)) (hw _ (List.mem_of_getElem? (i := 34) rfl)) (hw _ (List.mem_of_getElem? (i := 32) rfl)) (hw _ (List.mem_of_getElem? (i := 33) rfl)) e20 f21 f21 (Or.inl ⟨rfl, rfl⟩) (by decide : ¬ (0 : Int32) < 0) (by decide : ¬ (1 : Int32) < 0) (by decide : ¬ (0 : Int32) < 0) (by decide) (by decide) (us := []) rfl (Nat.le_of_ble_eq_true rfl) N14 gc (g := (mkF m 130 #[.val (.ref oa), .val (.long qe), .second, .val (.long qc), .second, .val (.int (0 : Int32))] [(.int (0 : Int32)), (.int (1 : Int32)), (.ref ca), (.int (0 : Int32)), (.ref ca)])) rfl (by rw [hml]; rfl) (rest := []) rfl (hb hby d3_130) (by decide) (W := 0) (by show 2 * 0 + _ ≤ _; exact Nat.le_of_eq rfl) (by decide)
  have Zs23 : n0 ≤ h22.size := Nat.le_trans Zs15 K22.1
  have Vc22 : Arv Z h22 ca kC .long (16 : Int32) [(.long (0 : Int64)), (.long (0 : Int64)), (.long (0 : Int64)), (.long (0 : Int64))] (.long (0 : Int64)) := V22
  have f24 := ((F0.keep K14 (ninS nae nin0)).keep K22 (ninS nac nin0))
  obtain ⟨T25, X25, e25, st25⟩ := getF X22 hx hZ hown (host := "") (Or.inl (hw _ (List.mem_of_getElem? (i := 10) rfl))) Via.refl e22 f24 (g := (mkF m 134 #[.val (.ref oa), .val (.long qe), .second, .val (.long qc), .second, .val (.int (0 : Int32))] [(.ref oa)])) rfl rfl (hb hby d3_134)
  have f26 := (Vc14.keep K22 (ninS nec nin0))
  obtain ⟨cl27, Ar27, q27, S27, M27, H27, G27⟩ := id f26
  have hin27 : ¬ ((0 : Int32) < 0 ∨ cl27.slots.size ≤ ((0 : Int32)).toNatClampNeg) := inb_of S27 ⟨by decide, by decide⟩
  obtain ⟨T28, h28, X28, e28, W28, st28⟩ := stJ X25 hx hZ e25 Ar27 (j := (0 : Int32)) hin27 (g := (mkF m 140 #[.val (.ref oa), .val (.long qe), .second, .val (.long qc), .second, .val (.int (0 : Int32))] [(.long qe), (.int (0 : Int32)), (.ref ea)])) rfl rfl (hb hby d3_140)
  have N28 := Fr.snoc X28 N22 ge
  have Zs29 : n0 ≤ h28.size := by rw [W28.size]; exact Zs23
  have V28 : Arv Z h28 ea kE .long (16 : Int32) [(.long qe), (.long (0 : Int64)), (.long (0 : Int64)), (.long (0 : Int64))] (.long (0 : Int64)) := Arv.set Ar27 q27 S27 M27 H27 G27 rfl W28 0 rfl (Nat.le_of_ble_eq_true rfl)
  have f30 := ((f16.keep K22 (ninS nac nin0)).other W28 (Or.inl nae))
  obtain ⟨T31, X31, e31, st31⟩ := getF X28 hx hZ hown (host := "") (Or.inl (hw _ (List.mem_of_getElem? (i := 12) rfl))) Via.refl e28 f30 (g := (mkF m 142 #[.val (.ref oa), .val (.long qe), .second, .val (.long qc), .second, .val (.int (0 : Int32))] [(.ref oa)])) rfl rfl (hb hby d3_142)
  have f32 := (Vc22.other W28 (Ne.symm nec))
  obtain ⟨cl33, Ar33, q33, S33, M33, H33, G33⟩ := id f32
  have hin33 : ¬ ((0 : Int32) < 0 ∨ cl33.slots.size ≤ ((0 : Int32)).toNatClampNeg) := inb_of S33 ⟨by decide, by decide⟩
  obtain ⟨T34, h34, X34, e34, W34, st34⟩ := stJ X31 hx hZ e31 Ar33 (j := (0 : Int32)) hin33 (g := (mkF m 148 #[.val (.ref oa), .val (.long qe), .second, .val (.long qc), .second, .val (.int (0 : Int32))] [(.long qc), (.int (0 : Int32)), (.ref ca)])) rfl rfl (hb hby d3_148)
  have N34 := Fr.snoc X34 N28 gc
  have Zs35 : n0 ≤ h34.size := by rw [W34.size]; exact Zs29
  have V34 : Arv Z h34 ca kC .long (16 : Int32) [(.long qc), (.long (0 : Int64)), (.long (0 : Int64)), (.long (0 : Int64))] (.long (0 : Int64)) := Arv.set Ar33 q33 S33 M33 H33 G33 rfl W34 0 rfl (Nat.le_of_ble_eq_true rfl)
  have f36 := (((f19.keep K22 (ninS nac nin0)).other W28 (Or.inl nae)).other W34 (Or.inl nac))
  obtain ⟨T37, X37, e37, st37⟩ := getF X34 hx hZ hown (host := "") (Or.inl (hw _ (List.mem_of_getElem? (i := 19) rfl))) Via.refl e34 f36 (g := (mkF m 151 #[.val (.ref oa), .val (.long qe), .second, .val (.long qc), .second, .val (.int (0 : Int32))] [(.ref oa), (.ref oa)])) rfl rfl (hb hby d3_151)
  have f38 := ((((Ea.keep K14).keep K22).wr W28).wr W34)
  obtain ⟨T39, h39, X39, e39, W39, st39⟩ := putF X37 hx hZ hown (host := "") (Or.inl (hw _ (List.mem_of_getElem? (i := 19) rfl))) Via.refl e37 f36 f38 (Or.inl (hw _ (List.mem_of_getElem? (i := 20) rfl))) (hw _ (List.mem_of_getElem? (i := 1) rfl)) (ty := .int) (by decide) rfl rfl (g := (mkF m 156 #[.val (.ref oa), .val (.long qe), .second, .val (.long qc), .second, .val (.int (0 : Int32))] [(.int (1 : Int32)), (.ref oa)])) rfl rfl (hb hby d3_156)
  have N39 := Fr.snoc X39 N34 ga
  have Zs40 : n0 ≤ h39.size := by rw [W39.size]; exact Zs35
  have Fw39 := f36.same W39
  obtain ⟨fs, hr, hrun, hended, hW, hsame⟩ := X39.leave (v := none) (fun _ => rfl)
  refine ⟨_, _, pre5 _ ?_, hrun, hended, _, _, rfl, ?_, ⟨_, rfl⟩, hW, hsame.mono (by decide) (by decide)⟩
  · refine XS.istore X3.here hx rfl (hb hby d3_13) rfl (l' := #[.val (.ref oa), .val (.long qe), .second, .val (.long qc), .second, .val (.int (-1 : Int32))]) rfl ?_
    refine XS.iload X3.here hx rfl (hb hby d3_15) rfl ?_
    show Steps p.tables e below (T3.setTop (mkF m 17 #[.val (.ref oa), .val (.long qe), .second, .val (.long qc), .second, .val (.int (-1 : Int32))] [(.int (-1 : Int32))])) _
    refine XS.ifYes X3.here hx rfl (pc0 := 17) (pc' := 32) rfl (hb hby d3_17) rfl (own_if (own_tlt (a := (-1 : Int32)) (b := (0 : Int32)) (by decide) (by decide) hc17_6).1) (by decide) (by decide) ?_
    refine XS.iload X3.here hx rfl (hb hby d3_32) rfl ?_
    refine XS.ineg X3.here hx rfl (hb hby d3_34) rfl ?_
    refine XS.iconst X3.here hx rfl (hb hby d3_35) ?_
    refine XS.isub X3.here hx rfl (hb hby d3_36) rfl ?_
    show Steps p.tables e below (T3.setTop (mkF m 37 #[.val (.ref oa), .val (.long qe), .second, .val (.long qc), .second, .val (.int (-1 : Int32))] [(.int (0 : Int32))])) _
    refine XS.istore X3.here hx rfl (hb hby d3_37) rfl (l' := #[.val (.ref oa), .val (.long qe), .second, .val (.long qc), .second, .val (.int (0 : Int32))]) rfl ?_
    refine XS.aloadN X3.here hx rfl (hb hby d3_39) rfl rfl ?_
    refine st7 _ ?_
    refine XS.aloadN X7.here hx rfl (hb hby d3_43) rfl rfl ?_
    refine st8 _ ?_
    show Steps p.tables e below (T8.setTop (mkF m 47 #[.val (.ref oa), .val (.long qe), .second, .val (.long qc), .second, .val (.int (0 : Int32))] [(.ref ea), (.int (0 : Int32))])) _
    refine X8.arraylength hx (by rw [e8]; exact Ar9.1) (State.isArrayOf_alike hZ.alike Ar9.2.1) (g := (mkF m 47 #[.val (.ref oa), .val (.long qe), .second, .val (.long qc), .second, .val (.int (0 : Int32))] [(.ref ea), (.int (0 : Int32))])) rfl rfl (hb hby d3_47) _ ?_
    rw [len_of S9 M9]
    refine XS.icmpYes X8.here hx rfl (pc0 := 48) (pc' := 85) rfl (hb hby d3_48) rfl (own_feq (a := (0 : Int32)) (b := (16 : Int32)) (by decide) (by decide) hc48_10).2 (by decide) (by decide) ?_
    refine XS.aloadN X8.here hx rfl (hb hby d3_85) rfl rfl ?_
    refine st11 _ ?_
    refine XS.iload X11.here hx rfl (hb hby d3_89) rfl ?_
    show Steps p.tables e below (T11.setTop (mkF m 91 #[.val (.ref oa), .val (.long qe), .second, .val (.long qc), .second, .val (.int (0 : Int32))] [(.int (0 : Int32)), (.ref ea)])) _
    refine XS.aloadN X11.here hx rfl (hb hby d3_91) rfl rfl ?_
    refine st12 _ ?_
    refine XS.iload X12.here hx rfl (hb hby d3_95) rfl ?_
    refine XS.iconst X12.here hx rfl (hb hby d3_97) ?_
    refine XS.iadd X12.here hx rfl (hb hby d3_98) rfl ?_
    show Steps p.tables e below (T12.setTop (mkF m 99 #[.val (.ref oa), .val (.long qe), .second, .val (.long qc), .second, .val (.int (0 : Int32))] [(.int (1 : Int32)), (.ref ea), (.int (0 : Int32)), (.ref ea)])) _
    refine XS.aloadN X12.here hx rfl (hb hby d3_99) rfl rfl ?_
    refine st13 _ ?_
    refine XS.iload X13.here hx rfl (hb hby d3_103) rfl ?_
    refine XS.isub X13.here hx rfl (hb hby d3_105) rfl ?_
    refine st14 _ ?_
    show Steps p.tables e below (T14.setTop (mkF m 109 #[.val (.ref oa), .val (.long qe), .second, .val (.long qc), .second, .val (.int (0 : Int32))] [])) _
    refine XS.aloadN X14.here hx rfl (hb hby d3_109) rfl rfl ?_
    refine st17 _ ?_
    refine XS.iload X17.here hx rfl (hb hby d3_113) rfl ?_
    refine XS.aloadN X17.here hx rfl (hb hby d3_115) rfl rfl ?_
    refine st18 _ ?_
    show Steps p.tables e below (T18.setTop (mkF m 119 #[.val (.ref oa), .val (.long qe), .second, .val (.long qc), .second, .val (.int (0 : Int32))] [(.ref ca), (.int (0 : Int32)), (.ref ca)])) _
    refine XS.iload X18.here hx rfl (hb hby d3_119) rfl ?_
    refine XS.iconst X18.here hx rfl (hb hby d3_121) ?_
    refine XS.iadd X18.here hx rfl (hb hby d3_122) rfl ?_
    refine XS.aloadN X18.here hx rfl (hb hby d3_123) rfl rfl ?_
    refine st20 _ ?_
    show Steps p.tables e below (T20.setTop (mkF m 127 #[.val (.ref oa), .val (.long qe), .second, .val (.long qc), .second, .val (.int (0 : Int32))] [(.int (0 : Int32)), (.int (1 : Int32)), (.ref ca), (.int (0 : Int32)), (.ref ca)])) _
    refine XS.iload X20.here hx rfl (hb hby d3_127) rfl ?_
    refine XS.isub X20.here hx rfl (hb hby d3_129) rfl ?_
    refine st22 _ ?_
    refine XS.aloadN X22.here hx rfl (hb hby d3_133) rfl rfl ?_
    refine st25 _ ?_
    show Steps p.tables e below (T25.setTop (mkF m 137 #[.val (.ref oa), .val (.long qe), .second, .val (.long qc), .second, .val (.int (0 : Int32))] [(.ref ea)])) _
    refine XS.iload X25.here hx rfl (hb hby d3_137) rfl ?_
    refine XS.lloadN X25.here hx rfl (hb hby d3_139) rfl ?_
    refine st28 _ ?_
    refine XS.aloadN X28.here hx rfl (hb hby d3_141) rfl rfl ?_
    refine st31 _ ?_
    show Steps p.tables e below (T31.setTop (mkF m 145 #[.val (.ref oa), .val (.long qe), .second, .val (.long qc), .second, .val (.int (0 : Int32))] [(.ref ca)])) _
    refine XS.iload X31.here hx rfl (hb hby d3_145) rfl ?_
    refine XS.lloadN X31.here hx rfl (hb hby d3_147) rfl ?_
    refine st34 _ ?_
    refine XS.aloadN X34.here hx rfl (hb hby d3_149) rfl rfl ?_
    refine XS.dup X34.here hx rfl (hb hby d3_150) rfl rfl ?_
    show Steps p.tables e below (T34.setTop (mkF m 151 #[.val (.ref oa), .val (.long qe), .second, .val (.long qc), .second, .val (.int (0 : Int32))] [(.ref oa), (.ref oa)])) _
    refine st37 _ ?_
    refine XS.iconst X37.here hx rfl (hb hby d3_154) ?_
    refine XS.iadd X37.here hx rfl (hb hby d3_155) rfl ?_
    refine st39 _ ?_
    exact X39.returnOut hx Bd.returns (hb hby d3_159) hr
  · show Q_add0 Z oa qe qc ea ca kE kC h0 n0 _ T39.heap _
    rw [e39]
    have f41 := ((((((Keep.refl h0 [oa, ea, ca]).trans K14 (allS (P := fun x => x ∈ [oa, ea, ca] ∨ h0.size ≤ x) (Or.inl (List.mem_of_getElem? (i := 1) rfl)) all0)).trans K22 (allS (P := fun x => x ∈ [oa, ea, ca] ∨ h0.size ≤ x) (Or.inl (List.mem_of_getElem? (i := 2) rfl)) all0)).wr W28 (Or.inl (List.mem_of_getElem? (i := 1) rfl))).wr W34 (Or.inl (List.mem_of_getElem? (i := 2) rfl))).wr W39 (Or.inl (List.mem_of_getElem? (i := 0) rfl)))
    have f42 := (f38.wr W39)
    have f43 := (((f24.other W28 (Or.inl nae)).other W34 (Or.inl nac)).other W39 (Or.inr (slot_ne (Or.inl (hw _ (List.mem_of_getElem? (i := 11) rfl))) (Or.inl (hw _ (List.mem_of_getElem? (i := 20) rfl))) (by decide) (t := (.array .long)) (t' := .int) (by decide) (by decide))))
    have f44 := ((f30.other W34 (Or.inl nac)).other W39 (Or.inr (slot_ne (Or.inl (hw _ (List.mem_of_getElem? (i := 13) rfl))) (Or.inl (hw _ (List.mem_of_getElem? (i := 20) rfl))) (by decide) (t := (.array .long)) (t' := .int) (by decide) (by decide))))
    have f45 := ((V28.other W34 nec).other W39 (Ne.symm nae))
    have f46 := (V34.other W39 (Ne.symm nac))
    exact ⟨rfl, N39, f41, f42, f43, f44, ⟨qe, qc, Fw39, f45, f46, by omega, by omega, fun s => by omega⟩⟩
theorem d3_20 : decode prog_20_method_2_code 20 = .ok (.aload_n 0, 1) := by decide +kernel
theorem d3_21 : decode prog_20_method_2_code 21 = .ok (.getfield 13, 3) := by decide +kernel
theorem d3_24 : decode prog_20_method_2_code 24 = .ok (.iload 5, 2) := by decide +kernel
theorem d3_26 : decode prog_20_method_2_code 26 = .ok (.dup2, 1) := by decide +kernel
theorem d3_27 : decode prog_20_method_2_code 27 = .ok (.laload, 1) := by decide +kernel
theorem d3_28 : decode prog_20_method_2_code 28 = .ok (.lload_n 3, 1) := by decide +kernel
theorem d3_29 : decode prog_20_method_2_code 29 = .ok (.ladd, 1) := by decide +kernel
theorem d3_30 : decode prog_20_method_2_code 30 = .ok (.lastore, 1) := by decide +kernel
theorem d3_31 : decode prog_20_method_2_code 31 = .ok (.return_, 1) := by decide +kernel
theorem ef_rm_add1 (m : MethodId) (x0 : Addr) (x1 : Int64) (x2 : Int64) : entryFrame m #[(.ref x0), (.long x1), (.long x2)] 6 = mkF m 0 #[.val (.ref x0), .val (.long x1), .second, .val (.long x2), .second, .unset] [] := by first | (simp [entryFrame, mkF, argsToLocals, Value.category]; done) | rfl
def Q_add1 (Z : State) (oa : Addr) (qe : Int64) (qc : Int64) (ea : Addr) (ca : Addr) (kE : ClassId) (kC : ClassId) (x0 : Int64) (c0 : Int64) (h0 : Heap) (n0 : Nat) (v : Option Value) (h : Heap) (L : List Loc) : Prop := v = none ∧ Fr n0 L ∧ Keep h0 h [oa, ea, ca] ∧ Exa Z h oa "com/example/foreslot/foreslot/CountsByEnd" ∧ Fld Z h oa "com/example/foreslot/foreslot/CountsByEnd" "ends" "[J" (.ref ea) ∧ Fld Z h oa "com/example/foreslot/foreslot/CountsByEnd" "counts" "[J" (.ref ca) ∧ ((∃ y0 d0 : Int64, Fld Z h oa "com/example/foreslot/foreslot/CountsByEnd" "size" "I" (.int (1 : Int32)) ∧ Arv Z h ea kE .long (16 : Int32) [(.long y0), (.long (0 : Int64)), (.long (0 : Int64)), (.long (0 : Int64))] (.long (0 : Int64)) ∧ Arv Z h ca kC .long (16 : Int32) [(.long d0), (.long (0 : Int64)), (.long (0 : Int64)), (.long (0 : Int64))] (.long (0 : Int64)) ∧ 1 ≤ d0.toInt ∧ d0.toInt = c0.toInt + qc.toInt ∧ (∀ s : Int, own_f y0.toInt s d0.toInt = own_f x0.toInt s c0.toInt + own_f qe.toInt s qc.toInt)) ∨ (∃ y0 y1 d0 d1 : Int64, Fld Z h oa "com/example/foreslot/foreslot/CountsByEnd" "size" "I" (.int (2 : Int32)) ∧ Arv Z h ea kE .long (16 : Int32) [(.long y0), (.long y1), (.long (0 : Int64)), (.long (0 : Int64))] (.long (0 : Int64)) ∧ Arv Z h ca kC .long (16 : Int32) [(.long d0), (.long d1), (.long (0 : Int64)), (.long (0 : Int64))] (.long (0 : Int64)) ∧ y0.toInt < y1.toInt ∧ 1 ≤ d0.toInt ∧ 1 ≤ d1.toInt ∧ d0.toInt + d1.toInt = c0.toInt + qc.toInt ∧ (∀ s : Int, own_f y0.toInt s d0.toInt + own_f y1.toInt s d1.toInt = own_f x0.toInt s c0.toInt + own_f qe.toInt s qc.toInt)))
set_option maxRecDepth 65536 in
set_option maxHeartbeats 40000000 in
theorem rm_add1 (l : Launch) (Z : State) (a0 : Array Value) (hw : ∀ d ∈ tables_1, d.before a0 Z = true) (ws : List Jvm.Cond) (oa : Addr) (qe : Int64) (qc : Int64) (ea : Addr) (ca : Addr) (kE : ClassId) (kC : ClassId) (x0 : Int64) (c0 : Int64) (h0 : Heap) (n0 : Nat) (Z0 : n0 ≤ h0.size) (Ea : Exa Z h0 oa "com/example/foreslot/foreslot/CountsByEnd") (F0 : Fld Z h0 oa "com/example/foreslot/foreslot/CountsByEnd" "ends" "[J" (.ref ea)) (F1 : Fld Z h0 oa "com/example/foreslot/foreslot/CountsByEnd" "counts" "[J" (.ref ca)) (F2 : Fld Z h0 oa "com/example/foreslot/foreslot/CountsByEnd" "size" "I" (.int (1 : Int32))) (V0 : Arv Z h0 ea kE .long (16 : Int32) [(.long x0), (.long (0 : Int64)), (.long (0 : Int64)), (.long (0 : Int64))] (.long (0 : Int64))) (V1 : Arv Z h0 ca kC .long (16 : Int32) [(.long c0), (.long (0 : Int64)), (.long (0 : Int64)), (.long (0 : Int64))] (.long (0 : Int64))) (ga : n0 ≤ oa) (ge : n0 ≤ ea) (gc : n0 ≤ ca) (nae : oa ≠ ea) (nac : oa ≠ ca) (nec : ea ≠ ca) (kc0 : 1 ≤ c0.toInt) (kq : 1 ≤ qc.toInt) (kt : c0.toInt + qc.toInt ≤ 100000) :
    MetFree l (⟨"com/example/foreslot/foreslot/CountsByEnd", "add", "(JJ)V"⟩ : MethodName) (head1 (Jvm.Cond.code (⟨"com/example/foreslot/foreslot/CountsByEnd", "add", "(JJ)V"⟩ : MethodName) prog_20_method_2_code 6 none :: ws) ({ frames := 2, cells := 0, slots := 0, locals := 37 } : Room)) (fun a U => a = #[(.ref oa), (.long qe), (.long qc)] ∧ Z.Warmed39 U.vm ∧ U.heap = h0) (fun _ _ _ _ _ => True) (fun _ U o U' => ∃ v L, o = .returned v ∧ Q_add1 Z oa qe qc ea ca kE kC x0 c0 h0 n0 v U'.heap L ∧ FrameEnd U o U' L ({ frames := 2, cells := 0, slots := 0, locals := 37 } : Room).cells ({ frames := 2, cells := 0, slots := 0, locals := 37 } : Room).slots) := by
  refine MetFree.of_bodySF (plainFor_of_name pn_1) hisR ?_
  intro p e s m args below meth c s₁ Bd hml0 hP hK
  obtain ⟨rfl, hZ, hh⟩ := hP
  have hx := Bd.exec
  have hby := Bd.bytes
  have hml : c.maxLocals = 6 := hml0
  have hown : s.vm.findClass "com/example/foreslot/foreslot/CountsByEnd" = some m.cls := findClass_of_methodNamed Bd.named
  have hnm := (name_of_methodNamed Bd.named Bd.method).1
  have X0 : Stand p l e ({ frames := 2, cells := 0, slots := 0, locals := 37 } : Room) s m #[(.ref oa), (.long qe), (.long qc)] below meth c s₁ [] 0 0 := Stand.of_body Bd
  have e0 : s₁.heap = h0 := by rw [← hh, Bd.state]; rfl
  have N0 := Fr.nil n0
  have pre0 : ∀ t, Steps p.tables e below (s₁.setTop (mkF m 0 #[.val (.ref oa), .val (.long qe), .second, .val (.long qc), .second, .unset] [])) t → Steps p.tables e below (s₁.setTop (entryFrame m #[(.ref oa), (.long qe), (.long qc)] 6)) t := fun t k => castTop (ef_rm_add1 m oa qe qc) k
  obtain ⟨T1, X1, e1, st1⟩ := getF X0 hx hZ hown (host := "") (Or.inl (hw _ (List.mem_of_getElem? (i := 10) rfl))) Via.refl e0 F0 (g := (mkF m 1 #[.val (.ref oa), .val (.long qe), .second, .val (.long qc), .second, .unset] [(.ref oa)])) rfl rfl (hb hby d3_1)
  obtain ⟨T2, X2, e2, st2⟩ := getF X1 hx hZ hown (host := "") (Or.inl (hw _ (List.mem_of_getElem? (i := 19) rfl))) Via.refl e1 F2 (g := (mkF m 6 #[.val (.ref oa), .val (.long qe), .second, .val (.long qc), .second, .unset] [(.ref oa), (.int (0 : Int32)), (.ref ea)])) rfl rfl (hb hby d3_6)
  obtain ⟨_, _, ⟨T3, L3, k3, n3⟩, -, X3, ⟨Lc3, hQ3, l3, y3, z3⟩, st3⟩ := Jvm.LawKit.callS X2 hx (y := (⟨"java/util/Arrays", "binarySearch", "([JIIJ)I"⟩ : MethodName)) hown (mvT hZ (hw _ (List.mem_of_getElem? (i := 21) rfl))) (mvT hZ (hw _ (List.mem_of_getElem? (i := 22) rfl))) (mvT hZ (hw _ (List.mem_of_getElem? (i := 23) rfl))) (mvT hZ (hw _ (List.mem_of_getElem? (i := 24) rfl))) (by decide) (backOf (W := 0) (rm_bs1 l Z a0 hw [] ea qe kE x0 h0 n0 Z0 V0) hZ (hw _ (List.mem_of_getElem? (i := 24) rfl)) (hw _ (List.mem_of_getElem? (i := 23) rfl)) (by decide) (by decide)) (g := (mkF m 10 #[.val (.ref oa), .val (.long qe), .second, .val (.long qc), .second, .unset] [(.long qe), (.int (1 : Int32)), (.int (0 : Int32)), (.ref ea)])) rfl (by rw [hml]; rfl) (argsL := [(.ref ea), (.int (0 : Int32)), (.int (1 : Int32)), (.long qe)]) (rest := []) (lenOf pd_1 rfl) rfl (by show 2 * 0 + _ ≤ _; exact Nat.le_of_eq rfl) (hb hby d3_10) (fun _ _ => ⟨rfl, e2, (by decide : 0 + 0 ≤ _), (by decide : 0 + 0 ≤ _)⟩)
  dsimp only [Pt.U, Pt.locs, Pt.cells, Pt.slots] at X3 l3 y3 z3 st3 hQ3
  subst l3 y3 z3
  obtain ⟨rb, rfl, hrb, N3q, e3⟩ := hQ3
  have N3 := Fr.app N0 N3q
  have pre4 : ∀ t, Steps p.tables e below (T3.setTop (mkF m 13 #[.val (.ref oa), .val (.long qe), .second, .val (.long qc), .second, .unset] [(.int rb)])) t → Steps p.tables e below (s₁.setTop (entryFrame m #[(.ref oa), (.long qe), (.long qc)] 6)) t := fun t kt => by
    refine pre0 _ ?_
    refine XS.aloadN X0.here hx rfl (hb hby d3_0) rfl rfl ?_
    refine st1 _ ?_
    refine XS.iconst X1.here hx rfl (hb hby d3_4) ?_
    refine XS.aloadN X1.here hx rfl (hb hby d3_5) rfl rfl ?_
    show Steps p.tables e below (T1.setTop (mkF m 6 #[.val (.ref oa), .val (.long qe), .second, .val (.long qc), .second, .unset] [(.ref oa), (.int (0 : Int32)), (.ref ea)])) _
    refine st2 _ ?_
    refine XS.lloadN X2.here hx rfl (hb hby d3_9) rfl ?_
    refine st3 _ ?_
    exact kt
  rcases hrb with ⟨rfl, hq⟩ | ⟨rfl, hq⟩ | ⟨rfl, hq⟩
  · have pre5 : ∀ t, Steps p.tables e below (T3.setTop (mkF m 13 #[.val (.ref oa), .val (.long qe), .second, .val (.long qc), .second, .unset] [(.int (0 : Int32))])) t → Steps p.tables e below (s₁.setTop (entryFrame m #[(.ref oa), (.long qe), (.long qc)] 6)) t := pre4
    have hc17_6 : ¬ ((0 : Int) < (0 : Int)) := by decide
    obtain ⟨T7, X7, e7, st7⟩ := getF X3 hx hZ hown (host := "") (Or.inl (hw _ (List.mem_of_getElem? (i := 12) rfl))) Via.refl e3 F1 (g := (mkF m 21 #[.val (.ref oa), .val (.long qe), .second, .val (.long qc), .second, .val (.int (0 : Int32))] [(.ref oa)])) rfl rfl (hb hby d3_21)
    obtain ⟨cl8, Ar8, q8, S8, M8, H8, G8⟩ := id V1
    have hin8 : ¬ ((0 : Int32) < 0 ∨ cl8.slots.size ≤ ((0 : Int32)).toNatClampNeg) := inb_of S8 ⟨by decide, by decide⟩
    have hat8 : cl8.slots[((0 : Int32)).toNatClampNeg]? = some (.long c0) := Has.at H8 hin8 rfl
    obtain ⟨cl9, Ar9, q9, S9, M9, H9, G9⟩ := id V1
    have hin9 : ¬ ((0 : Int32) < 0 ∨ cl9.slots.size ≤ ((0 : Int32)).toNatClampNeg) := inb_of S9 ⟨by decide, by decide⟩
    obtain ⟨T10, h10, X10, e10, W10, st10⟩ := stJ X7 hx hZ e7 Ar9 (j := (0 : Int32)) hin9 (g := (mkF m 30 #[.val (.ref oa), .val (.long qe), .second, .val (.long qc), .second, .val (.int (0 : Int32))] [(.long (c0 + qc)), (.int (0 : Int32)), (.ref ca)])) rfl rfl (hb hby d3_30)
    have N10 := Fr.snoc X10 N3 gc
    have Zs11 : n0 ≤ h10.size := by rw [W10.size]; exact Z0
    have V10 : Arv Z h10 ca kC .long (16 : Int32) [(.long (c0 + qc)), (.long (0 : Int64)), (.long (0 : Int64)), (.long (0 : Int64))] (.long (0 : Int64)) := Arv.set Ar9 q9 S9 M9 H9 G9 rfl W10 0 rfl (Nat.le_of_ble_eq_true rfl)
    obtain ⟨fs, hr, hrun, hended, hW, hsame⟩ := X10.leave (v := none) (fun _ => rfl)
    refine ⟨_, _, pre5 _ ?_, hrun, hended, _, _, rfl, ?_, ⟨_, rfl⟩, hW, hsame.mono (by decide) (by decide)⟩
    · refine XS.istore X3.here hx rfl (hb hby d3_13) rfl (l' := #[.val (.ref oa), .val (.long qe), .second, .val (.long qc), .second, .val (.int (0 : Int32))]) rfl ?_
      refine XS.iload X3.here hx rfl (hb hby d3_15) rfl ?_
      show Steps p.tables e below (T3.setTop (mkF m 17 #[.val (.ref oa), .val (.long qe), .second, .val (.long qc), .second, .val (.int (0 : Int32))] [(.int (0 : Int32))])) _
      refine XS.ifNo X3.here hx rfl (hb hby d3_17) rfl (own_if (own_flt (a := (0 : Int32)) (b := (0 : Int32)) (by decide) (by decide) hc17_6).1) ?_
      refine XS.aloadN X3.here hx rfl (hb hby d3_20) rfl rfl ?_
      refine st7 _ ?_
      refine XS.iload X7.here hx rfl (hb hby d3_24) rfl ?_
      jvm_step X7.here [X7.here.top, hx, (hb hby d3_26), Value.category]
      show Steps p.tables e below (T7.setTop (mkF m 27 #[.val (.ref oa), .val (.long qe), .second, .val (.long qc), .second, .val (.int (0 : Int32))] [(.int (0 : Int32)), (.ref ca), (.int (0 : Int32)), (.ref ca)])) _
      refine X7.laload hx (j := (0 : Int32)) (v := (.long c0)) (by rw [e7]; exact Ar8.1) (State.isArrayOf_alike hZ.alike Ar8.2.1) Ar8.2.2 hin8 hat8 (g := (mkF m 27 #[.val (.ref oa), .val (.long qe), .second, .val (.long qc), .second, .val (.int (0 : Int32))] [(.int (0 : Int32)), (.ref ca), (.int (0 : Int32)), (.ref ca)])) rfl rfl (hb hby d3_27) _ ?_
      refine XS.lloadN X7.here hx rfl (hb hby d3_28) rfl ?_
      refine XS.ladd X7.here hx rfl (hb hby d3_29) rfl ?_
      refine st10 _ ?_
      exact X10.returnOut hx Bd.returns (hb hby d3_31) hr
    · show Q_add1 Z oa qe qc ea ca kE kC x0 c0 h0 n0 _ T10.heap _
      rw [e10]
      have f12 := ((Keep.refl h0 [oa, ea, ca]).wr W10 (Or.inl (List.mem_of_getElem? (i := 2) rfl)))
      have f13 := (Ea.wr W10)
      have f14 := (F0.other W10 (Or.inl nac))
      have f15 := (F1.other W10 (Or.inl nac))
      have f16 := (F2.other W10 (Or.inl nac))
      have f17 := (V0.other W10 nec)
      have iadd : ((c0 + qc)).toInt = c0.toInt + qc.toInt := by have := rng64 c0; have := rng64 qc; (first | (have : ((c0 + qc)).toInt = c0.toInt + qc.toInt := (by have : (((c0 + qc)).toInt - (c0.toInt + qc.toInt)) % 18446744073709551616 = 0 := c_ladd c0 qc; have := rng64 (c0 + qc); omega)) | (have : (((c0 + qc)).toInt - (c0.toInt + qc.toInt)) % 18446744073709551616 = 0 := c_ladd c0 qc; have := rng64 (c0 + qc))); omega
      exact ⟨rfl, N10, f12, f13, f14, f15, Or.inl ⟨x0, (c0 + qc), f16, f17, V10, by omega, by omega, fun s => by rw [iadd, show qe.toInt = x0.toInt from hq.symm]; unfold own_f; split <;> omega⟩⟩
  · have pre18 : ∀ t, Steps p.tables e below (T3.setTop (mkF m 13 #[.val (.ref oa), .val (.long qe), .second, .val (.long qc), .second, .unset] [(.int (-1 : Int32))])) t → Steps p.tables e below (s₁.setTop (entryFrame m #[(.ref oa), (.long qe), (.long qc)] 6)) t := pre4
    have hc17_19 : (-1 : Int) < (0 : Int) := by decide
    obtain ⟨T20, X20, e20, st20⟩ := getF X3 hx hZ hown (host := "") (Or.inl (hw _ (List.mem_of_getElem? (i := 19) rfl))) Via.refl e3 F2 (g := (mkF m 40 #[.val (.ref oa), .val (.long qe), .second, .val (.long qc), .second, .val (.int (0 : Int32))] [(.ref oa)])) rfl rfl (hb hby d3_40)
    obtain ⟨T21, X21, e21, st21⟩ := getF X20 hx hZ hown (host := "") (Or.inl (hw _ (List.mem_of_getElem? (i := 10) rfl))) Via.refl e20 F0 (g := (mkF m 44 #[.val (.ref oa), .val (.long qe), .second, .val (.long qc), .second, .val (.int (0 : Int32))] [(.ref oa), (.int (1 : Int32))])) rfl rfl (hb hby d3_44)
    obtain ⟨cl22, Ar22, q22, S22, M22, H22, G22⟩ := id V0
    have hc48_23 : ¬ ((1 : Int) = (16 : Int)) := by decide
    obtain ⟨T24, X24, e24, st24⟩ := getF X21 hx hZ hown (host := "") (Or.inl (hw _ (List.mem_of_getElem? (i := 10) rfl))) Via.refl e21 F0 (g := (mkF m 86 #[.val (.ref oa), .val (.long qe), .second, .val (.long qc), .second, .val (.int (0 : Int32))] [(.ref oa)])) rfl rfl (hb hby d3_86)
    obtain ⟨T25, X25, e25, st25⟩ := getF X24 hx hZ hown (host := "") (Or.inl (hw _ (List.mem_of_getElem? (i := 10) rfl))) Via.refl e24 F0 (g := (mkF m 92 #[.val (.ref oa), .val (.long qe), .second, .val (.long qc), .second, .val (.int (0 : Int32))] [(.ref oa), (.int (0 : Int32)), (.ref ea)])) rfl rfl (hb hby d3_92)
    obtain ⟨T26, X26, e26, st26⟩ := getF X25 hx hZ hown (host := "") (Or.inl (hw _ (List.mem_of_getElem? (i := 19) rfl))) Via.refl e25 F2 (g := (mkF m 100 #[.val (.ref oa), .val (.long qe), .second, .val (.long qc), .second, .val (.int (0 : Int32))] [(.ref oa), (.int (1 : Int32)), (.ref ea), (.int (0 : Int32)), (.ref ea)])) rfl rfl (hb hby d3_100)
    obtain ⟨T27, h27, L27, X27, e27, N27, K27, V27, st27⟩ := cpA X26 hx hZ hown (hw _ (List.mem_of_getElem? (i := 31) rfl)) (hw _ (List.mem_of_getElem? (i := 34) rfl)) (hw _ (List.mem_of_getElem? (i := 32) rfl)) (hw _ (List.mem_of_getElem? (i := 33) rfl)) e26 V0 V0 (Or.inl ⟨rfl, rfl⟩) (by decide : ¬ (0 : Int32) < 0) (by decide : ¬ (1 : Int32) < 0) (by decide : ¬ (1 : Int32) < 0) (by decide) (by decide) (us := [(.long x0)]) rfl (Nat.le_of_ble_eq_true rfl) N3 ge (g := (mkF m 106 #[.val (.ref oa), .val (.long qe), .second, .val (.long qc), .second, .val (.int (0 : Int32))] [(.int (1 : Int32)), (.int (1 : Int32)), (.ref ea), (.int (0 : Int32)), (.ref ea)])) rfl (by rw [hml]; rfl) (rest := []) rfl (hb hby d3_106) (by decide) (W := 0) (by show 2 * 0 + _ ≤ _; exact Nat.le_of_eq rfl) (by decide)
    have Zs28 : n0 ≤ h27.size := Nat.le_trans Z0 K27.1
    have Vc27 : Arv Z h27 ea kE .long (16 : Int32) [(.long x0), (.long x0), (.long (0 : Int64)), (.long (0 : Int64))] (.long (0 : Int64)) := V27
    have f29 := (F1.keep K27 (ninS nae nin0))
    obtain ⟨T30, X30, e30, st30⟩ := getF X27 hx hZ hown (host := "") (Or.inl (hw _ (List.mem_of_getElem? (i := 12) rfl))) Via.refl e27 f29 (g := (mkF m 110 #[.val (.ref oa), .val (.long qe), .second, .val (.long qc), .second, .val (.int (0 : Int32))] [(.ref oa)])) rfl rfl (hb hby d3_110)
    obtain ⟨T31, X31, e31, st31⟩ := getF X30 hx hZ hown (host := "") (Or.inl (hw _ (List.mem_of_getElem? (i := 12) rfl))) Via.refl e30 f29 (g := (mkF m 116 #[.val (.ref oa), .val (.long qe), .second, .val (.long qc), .second, .val (.int (0 : Int32))] [(.ref oa), (.int (0 : Int32)), (.ref ca)])) rfl rfl (hb hby d3_116)
    have f32 := (F2.keep K27 (ninS nae nin0))
    obtain ⟨T33, X33, e33, st33⟩ := getF X31 hx hZ hown (host := "") (Or.inl (hw _ (List.mem_of_getElem? (i := 19) rfl))) Via.refl e31 f32 (g := (mkF m 124 #[.val (.ref oa), .val (.long qe), .second, .val (.long qc), .second, .val (.int (0 : Int32))] [(.ref oa), (.int (1 : Int32)), (.ref ca), (.int (0 : Int32)), (.ref ca)])) rfl rfl (hb hby d3_124)
    have f34 := (V1.keep K27 (ninS (Ne.symm nec) nin0))
    obtain ⟨T35, h35, L35, X35, e35, N35, K35, V35, st35⟩ := cpA X33 hx hZ hown (hw _ (List.mem_of_getElem? (i := 31) rfl)) (hw _ (List.mem_of_getElem? (i := 34) rfl)) (hw _ (List.mem_of_getElem? (i := 32) rfl)) (hw _ (List.mem_of_getElem? (i := 33) rfl)) e33 f34 f34 (Or.inl ⟨rfl, rfl⟩) (by decide : ¬ (0 : Int32) < 0) (by decide : ¬ (1 : Int32) < 0) (by decide : ¬ (1 : Int32) < 0) (by decide) (by decide) (us := [(.long c0)]) rfl (Nat.le_of_ble_eq_true rfl) N27 gc (g := (mkF m 130 #[.val (.ref oa), .val (.long qe), .second, .val (.long qc), .second, .val (.int (0 : Int32))] [(.int (1 : Int32)), (.int (1 : Int32)), (.ref ca), (.int (0 : Int32)), (.ref ca)])) rfl (by rw [hml]; rfl) (rest := []) rfl (hb hby d3_130) (by decide) (W := 0) (by show 2 * 0 + _ ≤ _; exact Nat.le_of_eq rfl) (by decide)
    have Zs36 : n0 ≤ h35.size := Nat.le_trans Zs28 K35.1
    have Vc35 : Arv Z h35 ca kC .long (16 : Int32) [(.long c0), (.long c0), (.long (0 : Int64)), (.long (0 : Int64))] (.long (0 : Int64)) := V35
    have f37 := ((F0.keep K27 (ninS nae nin0)).keep K35 (ninS nac nin0))
    obtain ⟨T38, X38, e38, st38⟩ := getF X35 hx hZ hown (host := "") (Or.inl (hw _ (List.mem_of_getElem? (i := 10) rfl))) Via.refl e35 f37 (g := (mkF m 134 #[.val (.ref oa), .val (.long qe), .second, .val (.long qc), .second, .val (.int (0 : Int32))] [(.ref oa)])) rfl rfl (hb hby d3_134)
    have f39 := (Vc27.keep K35 (ninS nec nin0))
    obtain ⟨cl40, Ar40, q40, S40, M40, H40, G40⟩ := id f39
    have hin40 : ¬ ((0 : Int32) < 0 ∨ cl40.slots.size ≤ ((0 : Int32)).toNatClampNeg) := inb_of S40 ⟨by decide, by decide⟩
    obtain ⟨T41, h41, X41, e41, W41, st41⟩ := stJ X38 hx hZ e38 Ar40 (j := (0 : Int32)) hin40 (g := (mkF m 140 #[.val (.ref oa), .val (.long qe), .second, .val (.long qc), .second, .val (.int (0 : Int32))] [(.long qe), (.int (0 : Int32)), (.ref ea)])) rfl rfl (hb hby d3_140)
    have N41 := Fr.snoc X41 N35 ge
    have Zs42 : n0 ≤ h41.size := by rw [W41.size]; exact Zs36
    have V41 : Arv Z h41 ea kE .long (16 : Int32) [(.long qe), (.long x0), (.long (0 : Int64)), (.long (0 : Int64))] (.long (0 : Int64)) := Arv.set Ar40 q40 S40 M40 H40 G40 rfl W41 0 rfl (Nat.le_of_ble_eq_true rfl)
    have f43 := ((f29.keep K35 (ninS nac nin0)).other W41 (Or.inl nae))
    obtain ⟨T44, X44, e44, st44⟩ := getF X41 hx hZ hown (host := "") (Or.inl (hw _ (List.mem_of_getElem? (i := 12) rfl))) Via.refl e41 f43 (g := (mkF m 142 #[.val (.ref oa), .val (.long qe), .second, .val (.long qc), .second, .val (.int (0 : Int32))] [(.ref oa)])) rfl rfl (hb hby d3_142)
    have f45 := (Vc35.other W41 (Ne.symm nec))
    obtain ⟨cl46, Ar46, q46, S46, M46, H46, G46⟩ := id f45
    have hin46 : ¬ ((0 : Int32) < 0 ∨ cl46.slots.size ≤ ((0 : Int32)).toNatClampNeg) := inb_of S46 ⟨by decide, by decide⟩
    obtain ⟨T47, h47, X47, e47, W47, st47⟩ := stJ X44 hx hZ e44 Ar46 (j := (0 : Int32)) hin46 (g := (mkF m 148 #[.val (.ref oa), .val (.long qe), .second, .val (.long qc), .second, .val (.int (0 : Int32))] [(.long qc), (.int (0 : Int32)), (.ref ca)])) rfl rfl (hb hby d3_148)
    have N47 := Fr.snoc X47 N41 gc
    have Zs48 : n0 ≤ h47.size := by rw [W47.size]; exact Zs42
    have V47 : Arv Z h47 ca kC .long (16 : Int32) [(.long qc), (.long c0), (.long (0 : Int64)), (.long (0 : Int64))] (.long (0 : Int64)) := Arv.set Ar46 q46 S46 M46 H46 G46 rfl W47 0 rfl (Nat.le_of_ble_eq_true rfl)
    have f49 := (((f32.keep K35 (ninS nac nin0)).other W41 (Or.inl nae)).other W47 (Or.inl nac))
    obtain ⟨T50, X50, e50, st50⟩ := getF X47 hx hZ hown (host := "") (Or.inl (hw _ (List.mem_of_getElem? (i := 19) rfl))) Via.refl e47 f49 (g := (mkF m 151 #[.val (.ref oa), .val (.long qe), .second, .val (.long qc), .second, .val (.int (0 : Int32))] [(.ref oa), (.ref oa)])) rfl rfl (hb hby d3_151)
    have f51 := ((((Ea.keep K27).keep K35).wr W41).wr W47)
    obtain ⟨T52, h52, X52, e52, W52, st52⟩ := putF X50 hx hZ hown (host := "") (Or.inl (hw _ (List.mem_of_getElem? (i := 19) rfl))) Via.refl e50 f49 f51 (Or.inl (hw _ (List.mem_of_getElem? (i := 20) rfl))) (hw _ (List.mem_of_getElem? (i := 1) rfl)) (ty := .int) (by decide) rfl rfl (g := (mkF m 156 #[.val (.ref oa), .val (.long qe), .second, .val (.long qc), .second, .val (.int (0 : Int32))] [(.int (2 : Int32)), (.ref oa)])) rfl rfl (hb hby d3_156)
    have N52 := Fr.snoc X52 N47 ga
    have Zs53 : n0 ≤ h52.size := by rw [W52.size]; exact Zs48
    have Fw52 := f49.same W52
    obtain ⟨fs, hr, hrun, hended, hW, hsame⟩ := X52.leave (v := none) (fun _ => rfl)
    refine ⟨_, _, pre18 _ ?_, hrun, hended, _, _, rfl, ?_, ⟨_, rfl⟩, hW, hsame.mono (by decide) (by decide)⟩
    · refine XS.istore X3.here hx rfl (hb hby d3_13) rfl (l' := #[.val (.ref oa), .val (.long qe), .second, .val (.long qc), .second, .val (.int (-1 : Int32))]) rfl ?_
      refine XS.iload X3.here hx rfl (hb hby d3_15) rfl ?_
      show Steps p.tables e below (T3.setTop (mkF m 17 #[.val (.ref oa), .val (.long qe), .second, .val (.long qc), .second, .val (.int (-1 : Int32))] [(.int (-1 : Int32))])) _
      refine XS.ifYes X3.here hx rfl (pc0 := 17) (pc' := 32) rfl (hb hby d3_17) rfl (own_if (own_tlt (a := (-1 : Int32)) (b := (0 : Int32)) (by decide) (by decide) hc17_19).1) (by decide) (by decide) ?_
      refine XS.iload X3.here hx rfl (hb hby d3_32) rfl ?_
      refine XS.ineg X3.here hx rfl (hb hby d3_34) rfl ?_
      refine XS.iconst X3.here hx rfl (hb hby d3_35) ?_
      refine XS.isub X3.here hx rfl (hb hby d3_36) rfl ?_
      show Steps p.tables e below (T3.setTop (mkF m 37 #[.val (.ref oa), .val (.long qe), .second, .val (.long qc), .second, .val (.int (-1 : Int32))] [(.int (0 : Int32))])) _
      refine XS.istore X3.here hx rfl (hb hby d3_37) rfl (l' := #[.val (.ref oa), .val (.long qe), .second, .val (.long qc), .second, .val (.int (0 : Int32))]) rfl ?_
      refine XS.aloadN X3.here hx rfl (hb hby d3_39) rfl rfl ?_
      refine st20 _ ?_
      refine XS.aloadN X20.here hx rfl (hb hby d3_43) rfl rfl ?_
      refine st21 _ ?_
      show Steps p.tables e below (T21.setTop (mkF m 47 #[.val (.ref oa), .val (.long qe), .second, .val (.long qc), .second, .val (.int (0 : Int32))] [(.ref ea), (.int (1 : Int32))])) _
      refine X21.arraylength hx (by rw [e21]; exact Ar22.1) (State.isArrayOf_alike hZ.alike Ar22.2.1) (g := (mkF m 47 #[.val (.ref oa), .val (.long qe), .second, .val (.long qc), .second, .val (.int (0 : Int32))] [(.ref ea), (.int (1 : Int32))])) rfl rfl (hb hby d3_47) _ ?_
      rw [len_of S22 M22]
      refine XS.icmpYes X21.here hx rfl (pc0 := 48) (pc' := 85) rfl (hb hby d3_48) rfl (own_feq (a := (1 : Int32)) (b := (16 : Int32)) (by decide) (by decide) hc48_23).2 (by decide) (by decide) ?_
      refine XS.aloadN X21.here hx rfl (hb hby d3_85) rfl rfl ?_
      refine st24 _ ?_
      refine XS.iload X24.here hx rfl (hb hby d3_89) rfl ?_
      show Steps p.tables e below (T24.setTop (mkF m 91 #[.val (.ref oa), .val (.long qe), .second, .val (.long qc), .second, .val (.int (0 : Int32))] [(.int (0 : Int32)), (.ref ea)])) _
      refine XS.aloadN X24.here hx rfl (hb hby d3_91) rfl rfl ?_
      refine st25 _ ?_
      refine XS.iload X25.here hx rfl (hb hby d3_95) rfl ?_
      refine XS.iconst X25.here hx rfl (hb hby d3_97) ?_
      refine XS.iadd X25.here hx rfl (hb hby d3_98) rfl ?_
      show Steps p.tables e below (T25.setTop (mkF m 99 #[.val (.ref oa), .val (.long qe), .second, .val (.long qc), .second, .val (.int (0 : Int32))] [(.int (1 : Int32)), (.ref ea), (.int (0 : Int32)), (.ref ea)])) _
      refine XS.aloadN X25.here hx rfl (hb hby d3_99) rfl rfl ?_
      refine st26 _ ?_
      refine XS.iload X26.here hx rfl (hb hby d3_103) rfl ?_
      refine XS.isub X26.here hx rfl (hb hby d3_105) rfl ?_
      refine st27 _ ?_
      show Steps p.tables e below (T27.setTop (mkF m 109 #[.val (.ref oa), .val (.long qe), .second, .val (.long qc), .second, .val (.int (0 : Int32))] [])) _
      refine XS.aloadN X27.here hx rfl (hb hby d3_109) rfl rfl ?_
      refine st30 _ ?_
      refine XS.iload X30.here hx rfl (hb hby d3_113) rfl ?_
      refine XS.aloadN X30.here hx rfl (hb hby d3_115) rfl rfl ?_
      refine st31 _ ?_
      show Steps p.tables e below (T31.setTop (mkF m 119 #[.val (.ref oa), .val (.long qe), .second, .val (.long qc), .second, .val (.int (0 : Int32))] [(.ref ca), (.int (0 : Int32)), (.ref ca)])) _
      refine XS.iload X31.here hx rfl (hb hby d3_119) rfl ?_
      refine XS.iconst X31.here hx rfl (hb hby d3_121) ?_
      refine XS.iadd X31.here hx rfl (hb hby d3_122) rfl ?_
      refine XS.aloadN X31.here hx rfl (hb hby d3_123) rfl rfl ?_
      refine st33 _ ?_
      show Steps p.tables e below (T33.setTop (mkF m 127 #[.val (.ref oa), .val (.long qe), .second, .val (.long qc), .second, .val (.int (0 : Int32))] [(.int (1 : Int32)), (.int (1 : Int32)), (.ref ca), (.int (0 : Int32)), (.ref ca)])) _
      refine XS.iload X33.here hx rfl (hb hby d3_127) rfl ?_
      refine XS.isub X33.here hx rfl (hb hby d3_129) rfl ?_
      refine st35 _ ?_
      refine XS.aloadN X35.here hx rfl (hb hby d3_133) rfl rfl ?_
      refine st38 _ ?_
      show Steps p.tables e below (T38.setTop (mkF m 137 #[.val (.ref oa), .val (.long qe), .second, .val (.long qc), .second, .val (.int (0 : Int32))] [(.ref ea)])) _
      refine XS.iload X38.here hx rfl (hb hby d3_137) rfl ?_
      refine XS.lloadN X38.here hx rfl (hb hby d3_139) rfl ?_
      refine st41 _ ?_
      refine XS.aloadN X41.here hx rfl (hb hby d3_141) rfl rfl ?_
      refine st44 _ ?_
      show Steps p.tables e below (T44.setTop (mkF m 145 #[.val (.ref oa), .val (.long qe), .second, .val (.long qc), .second, .val (.int (0 : Int32))] [(.ref ca)])) _
      refine XS.iload X44.here hx rfl (hb hby d3_145) rfl ?_
      refine XS.lloadN X44.here hx rfl (hb hby d3_147) rfl ?_
      refine st47 _ ?_
      refine XS.aloadN X47.here hx rfl (hb hby d3_149) rfl rfl ?_
      refine XS.dup X47.here hx rfl (hb hby d3_150) rfl rfl ?_
      show Steps p.tables e below (T47.setTop (mkF m 151 #[.val (.ref oa), .val (.long qe), .second, .val (.long qc), .second, .val (.int (0 : Int32))] [(.ref oa), (.ref oa)])) _
      refine st50 _ ?_
      refine XS.iconst X50.here hx rfl (hb hby d3_154) ?_
      refine XS.iadd X50.here hx rfl (hb hby d3_155) rfl ?_
      refine st52 _ ?_
      exact X52.returnOut hx Bd.returns (hb hby d3_159) hr
    · show Q_add1 Z oa qe qc ea ca kE kC x0 c0 h0 n0 _ T52.heap _
      rw [e52]
      have f54 := ((((((Keep.refl h0 [oa, ea, ca]).trans K27 (allS (P := fun x => x ∈ [oa, ea, ca] ∨ h0.size ≤ x) (Or.inl (List.mem_of_getElem? (i := 1) rfl)) all0)).trans K35 (allS (P := fun x => x ∈ [oa, ea, ca] ∨ h0.size ≤ x) (Or.inl (List.mem_of_getElem? (i := 2) rfl)) all0)).wr W41 (Or.inl (List.mem_of_getElem? (i := 1) rfl))).wr W47 (Or.inl (List.mem_of_getElem? (i := 2) rfl))).wr W52 (Or.inl (List.mem_of_getElem? (i := 0) rfl)))
      have f55 := (f51.wr W52)
      have f56 := (((f37.other W41 (Or.inl nae)).other W47 (Or.inl nac)).other W52 (Or.inr (slot_ne (Or.inl (hw _ (List.mem_of_getElem? (i := 11) rfl))) (Or.inl (hw _ (List.mem_of_getElem? (i := 20) rfl))) (by decide) (t := (.array .long)) (t' := .int) (by decide) (by decide))))
      have f57 := ((f43.other W47 (Or.inl nac)).other W52 (Or.inr (slot_ne (Or.inl (hw _ (List.mem_of_getElem? (i := 13) rfl))) (Or.inl (hw _ (List.mem_of_getElem? (i := 20) rfl))) (by decide) (t := (.array .long)) (t' := .int) (by decide) (by decide))))
      have f58 := ((V41.other W47 nec).other W52 (Ne.symm nae))
      have f59 := (V47.other W52 (Ne.symm nac))
      exact ⟨rfl, N52, f54, f55, f56, f57, Or.inr ⟨qe, x0, qc, c0, Fw52, f58, f59, by omega, by omega, by omega, by omega, fun s => by omega⟩⟩
  · have pre60 : ∀ t, Steps p.tables e below (T3.setTop (mkF m 13 #[.val (.ref oa), .val (.long qe), .second, .val (.long qc), .second, .unset] [(.int (-2 : Int32))])) t → Steps p.tables e below (s₁.setTop (entryFrame m #[(.ref oa), (.long qe), (.long qc)] 6)) t := pre4
    have hc17_61 : (-2 : Int) < (0 : Int) := by decide
    obtain ⟨T62, X62, e62, st62⟩ := getF X3 hx hZ hown (host := "") (Or.inl (hw _ (List.mem_of_getElem? (i := 19) rfl))) Via.refl e3 F2 (g := (mkF m 40 #[.val (.ref oa), .val (.long qe), .second, .val (.long qc), .second, .val (.int (1 : Int32))] [(.ref oa)])) rfl rfl (hb hby d3_40)
    obtain ⟨T63, X63, e63, st63⟩ := getF X62 hx hZ hown (host := "") (Or.inl (hw _ (List.mem_of_getElem? (i := 10) rfl))) Via.refl e62 F0 (g := (mkF m 44 #[.val (.ref oa), .val (.long qe), .second, .val (.long qc), .second, .val (.int (1 : Int32))] [(.ref oa), (.int (1 : Int32))])) rfl rfl (hb hby d3_44)
    obtain ⟨cl64, Ar64, q64, S64, M64, H64, G64⟩ := id V0
    have hc48_65 : ¬ ((1 : Int) = (16 : Int)) := by decide
    obtain ⟨T66, X66, e66, st66⟩ := getF X63 hx hZ hown (host := "") (Or.inl (hw _ (List.mem_of_getElem? (i := 10) rfl))) Via.refl e63 F0 (g := (mkF m 86 #[.val (.ref oa), .val (.long qe), .second, .val (.long qc), .second, .val (.int (1 : Int32))] [(.ref oa)])) rfl rfl (hb hby d3_86)
    obtain ⟨T67, X67, e67, st67⟩ := getF X66 hx hZ hown (host := "") (Or.inl (hw _ (List.mem_of_getElem? (i := 10) rfl))) Via.refl e66 F0 (g := (mkF m 92 #[.val (.ref oa), .val (.long qe), .second, .val (.long qc), .second, .val (.int (1 : Int32))] [(.ref oa), (.int (1 : Int32)), (.ref ea)])) rfl rfl (hb hby d3_92)
    obtain ⟨T68, X68, e68, st68⟩ := getF X67 hx hZ hown (host := "") (Or.inl (hw _ (List.mem_of_getElem? (i := 19) rfl))) Via.refl e67 F2 (g := (mkF m 100 #[.val (.ref oa), .val (.long qe), .second, .val (.long qc), .second, .val (.int (1 : Int32))] [(.ref oa), (.int (2 : Int32)), (.ref ea), (.int (1 : Int32)), (.ref ea)])) rfl rfl (hb hby d3_100)
    obtain ⟨T69, h69, L69, X69, e69, N69, K69, V69, st69⟩ := cpA X68 hx hZ hown (hw _ (List.mem_of_getElem? (i := 31) rfl)) (hw _ (List.mem_of_getElem? (i := 34) rfl)) (hw _ (List.mem_of_getElem? (i := 32) rfl)) (hw _ (List.mem_of_getElem? (i := 33) rfl)) e68 V0 V0 (Or.inl ⟨rfl, rfl⟩) (by decide : ¬ (1 : Int32) < 0) (by decide : ¬ (2 : Int32) < 0) (by decide : ¬ (0 : Int32) < 0) (by decide) (by decide) (us := []) rfl (Nat.le_of_ble_eq_true rfl) N3 ge (g := (mkF m 106 #[.val (.ref oa), .val (.long qe), .second, .val (.long qc), .second, .val (.int (1 : Int32))] [(.int (0 : Int32)), (.int (2 : Int32)), (.ref ea), (.int (1 : Int32)), (.ref ea)])) rfl (by rw [hml]; rfl) (rest := []) rfl (hb hby d3_106) (by decide) (W := 0) (by show 2 * 0 + _ ≤ _; exact Nat.le_of_eq rfl) (by decide)
    have Zs70 : n0 ≤ h69.size := Nat.le_trans Z0 K69.1
    have Vc69 : Arv Z h69 ea kE .long (16 : Int32) [(.long x0), (.long (0 : Int64)), (.long (0 : Int64)), (.long (0 : Int64))] (.long (0 : Int64)) := V69
    have f71 := (F1.keep K69 (ninS nae nin0))
    obtain ⟨T72, X72, e72, st72⟩ := getF X69 hx hZ hown (host := "") (Or.inl (hw _ (List.mem_of_getElem? (i := 12) rfl))) Via.refl e69 f71 (g := (mkF m 110 #[.val (.ref oa), .val (.long qe), .second, .val (.long qc), .second, .val (.int (1 : Int32))] [(.ref oa)])) rfl rfl (hb hby d3_110)
    obtain ⟨T73, X73, e73, st73⟩ := getF X72 hx hZ hown (host := "") (Or.inl (hw _ (List.mem_of_getElem? (i := 12) rfl))) Via.refl e72 f71 (g := (mkF m 116 #[.val (.ref oa), .val (.long qe), .second, .val (.long qc), .second, .val (.int (1 : Int32))] [(.ref oa), (.int (1 : Int32)), (.ref ca)])) rfl rfl (hb hby d3_116)
    have f74 := (F2.keep K69 (ninS nae nin0))
    obtain ⟨T75, X75, e75, st75⟩ := getF X73 hx hZ hown (host := "") (Or.inl (hw _ (List.mem_of_getElem? (i := 19) rfl))) Via.refl e73 f74 (g := (mkF m 124 #[.val (.ref oa), .val (.long qe), .second, .val (.long qc), .second, .val (.int (1 : Int32))] [(.ref oa), (.int (2 : Int32)), (.ref ca), (.int (1 : Int32)), (.ref ca)])) rfl rfl (hb hby d3_124)
    have f76 := (V1.keep K69 (ninS (Ne.symm nec) nin0))
    obtain ⟨T77, h77, L77, X77, e77, N77, K77, V77, st77⟩ := cpA X75 hx hZ hown (hw _ (List.mem_of_getElem? (i := 31) rfl)) (hw _ (List.mem_of_getElem? (i := 34) rfl)) (hw _ (List.mem_of_getElem? (i := 32) rfl)) (hw _ (List.mem_of_getElem? (i := 33) rfl)) e75 f76 f76 (Or.inl ⟨rfl, rfl⟩) (by decide : ¬ (1 : Int32) < 0) (by decide : ¬ (2 : Int32) < 0) (by decide : ¬ (0 : Int32) < 0) (by decide) (by decide) (us := []) rfl (Nat.le_of_ble_eq_true rfl) N69 gc (g := (mkF m 130 #[.val (.ref oa), .val (.long qe), .second, .val (.long qc), .second, .val (.int (1 : Int32))] [(.int (0 : Int32)), (.int (2 : Int32)), (.ref ca), (.int (1 : Int32)), (.ref ca)])) rfl (by rw [hml]; rfl) (rest := []) rfl (hb hby d3_130) (by decide) (W := 0) (by show 2 * 0 + _ ≤ _; exact Nat.le_of_eq rfl) (by decide)
    have Zs78 : n0 ≤ h77.size := Nat.le_trans Zs70 K77.1
    have Vc77 : Arv Z h77 ca kC .long (16 : Int32) [(.long c0), (.long (0 : Int64)), (.long (0 : Int64)), (.long (0 : Int64))] (.long (0 : Int64)) := V77
    have f79 := ((F0.keep K69 (ninS nae nin0)).keep K77 (ninS nac nin0))
    obtain ⟨T80, X80, e80, st80⟩ := getF X77 hx hZ hown (host := "") (Or.inl (hw _ (List.mem_of_getElem? (i := 10) rfl))) Via.refl e77 f79 (g := (mkF m 134 #[.val (.ref oa), .val (.long qe), .second, .val (.long qc), .second, .val (.int (1 : Int32))] [(.ref oa)])) rfl rfl (hb hby d3_134)
    have f81 := (Vc69.keep K77 (ninS nec nin0))
    obtain ⟨cl82, Ar82, q82, S82, M82, H82, G82⟩ := id f81
    have hin82 : ¬ ((1 : Int32) < 0 ∨ cl82.slots.size ≤ ((1 : Int32)).toNatClampNeg) := inb_of S82 ⟨by decide, by decide⟩
    obtain ⟨T83, h83, X83, e83, W83, st83⟩ := stJ X80 hx hZ e80 Ar82 (j := (1 : Int32)) hin82 (g := (mkF m 140 #[.val (.ref oa), .val (.long qe), .second, .val (.long qc), .second, .val (.int (1 : Int32))] [(.long qe), (.int (1 : Int32)), (.ref ea)])) rfl rfl (hb hby d3_140)
    have N83 := Fr.snoc X83 N77 ge
    have Zs84 : n0 ≤ h83.size := by rw [W83.size]; exact Zs78
    have V83 : Arv Z h83 ea kE .long (16 : Int32) [(.long x0), (.long qe), (.long (0 : Int64)), (.long (0 : Int64))] (.long (0 : Int64)) := Arv.set Ar82 q82 S82 M82 H82 G82 rfl W83 1 rfl (Nat.le_of_ble_eq_true rfl)
    have f85 := ((f71.keep K77 (ninS nac nin0)).other W83 (Or.inl nae))
    obtain ⟨T86, X86, e86, st86⟩ := getF X83 hx hZ hown (host := "") (Or.inl (hw _ (List.mem_of_getElem? (i := 12) rfl))) Via.refl e83 f85 (g := (mkF m 142 #[.val (.ref oa), .val (.long qe), .second, .val (.long qc), .second, .val (.int (1 : Int32))] [(.ref oa)])) rfl rfl (hb hby d3_142)
    have f87 := (Vc77.other W83 (Ne.symm nec))
    obtain ⟨cl88, Ar88, q88, S88, M88, H88, G88⟩ := id f87
    have hin88 : ¬ ((1 : Int32) < 0 ∨ cl88.slots.size ≤ ((1 : Int32)).toNatClampNeg) := inb_of S88 ⟨by decide, by decide⟩
    obtain ⟨T89, h89, X89, e89, W89, st89⟩ := stJ X86 hx hZ e86 Ar88 (j := (1 : Int32)) hin88 (g := (mkF m 148 #[.val (.ref oa), .val (.long qe), .second, .val (.long qc), .second, .val (.int (1 : Int32))] [(.long qc), (.int (1 : Int32)), (.ref ca)])) rfl rfl (hb hby d3_148)
    have N89 := Fr.snoc X89 N83 gc
    have Zs90 : n0 ≤ h89.size := by rw [W89.size]; exact Zs84
    have V89 : Arv Z h89 ca kC .long (16 : Int32) [(.long c0), (.long qc), (.long (0 : Int64)), (.long (0 : Int64))] (.long (0 : Int64)) := Arv.set Ar88 q88 S88 M88 H88 G88 rfl W89 1 rfl (Nat.le_of_ble_eq_true rfl)
    have f91 := (((f74.keep K77 (ninS nac nin0)).other W83 (Or.inl nae)).other W89 (Or.inl nac))
    obtain ⟨T92, X92, e92, st92⟩ := getF X89 hx hZ hown (host := "") (Or.inl (hw _ (List.mem_of_getElem? (i := 19) rfl))) Via.refl e89 f91 (g := (mkF m 151 #[.val (.ref oa), .val (.long qe), .second, .val (.long qc), .second, .val (.int (1 : Int32))] [(.ref oa), (.ref oa)])) rfl rfl (hb hby d3_151)
    have f93 := ((((Ea.keep K69).keep K77).wr W83).wr W89)
    obtain ⟨T94, h94, X94, e94, W94, st94⟩ := putF X92 hx hZ hown (host := "") (Or.inl (hw _ (List.mem_of_getElem? (i := 19) rfl))) Via.refl e92 f91 f93 (Or.inl (hw _ (List.mem_of_getElem? (i := 20) rfl))) (hw _ (List.mem_of_getElem? (i := 1) rfl)) (ty := .int) (by decide) rfl rfl (g := (mkF m 156 #[.val (.ref oa), .val (.long qe), .second, .val (.long qc), .second, .val (.int (1 : Int32))] [(.int (2 : Int32)), (.ref oa)])) rfl rfl (hb hby d3_156)
    have N94 := Fr.snoc X94 N89 ga
    have Zs95 : n0 ≤ h94.size := by rw [W94.size]; exact Zs90
    have Fw94 := f91.same W94
    obtain ⟨fs, hr, hrun, hended, hW, hsame⟩ := X94.leave (v := none) (fun _ => rfl)
    refine ⟨_, _, pre60 _ ?_, hrun, hended, _, _, rfl, ?_, ⟨_, rfl⟩, hW, hsame.mono (by decide) (by decide)⟩
    · refine XS.istore X3.here hx rfl (hb hby d3_13) rfl (l' := #[.val (.ref oa), .val (.long qe), .second, .val (.long qc), .second, .val (.int (-2 : Int32))]) rfl ?_
      refine XS.iload X3.here hx rfl (hb hby d3_15) rfl ?_
      show Steps p.tables e below (T3.setTop (mkF m 17 #[.val (.ref oa), .val (.long qe), .second, .val (.long qc), .second, .val (.int (-2 : Int32))] [(.int (-2 : Int32))])) _
      refine XS.ifYes X3.here hx rfl (pc0 := 17) (pc' := 32) rfl (hb hby d3_17) rfl (own_if (own_tlt (a := (-2 : Int32)) (b := (0 : Int32)) (by decide) (by decide) hc17_61).1) (by decide) (by decide) ?_
      refine XS.iload X3.here hx rfl (hb hby d3_32) rfl ?_
      refine XS.ineg X3.here hx rfl (hb hby d3_34) rfl ?_
      refine XS.iconst X3.here hx rfl (hb hby d3_35) ?_
      refine XS.isub X3.here hx rfl (hb hby d3_36) rfl ?_
      show Steps p.tables e below (T3.setTop (mkF m 37 #[.val (.ref oa), .val (.long qe), .second, .val (.long qc), .second, .val (.int (-2 : Int32))] [(.int (1 : Int32))])) _
      refine XS.istore X3.here hx rfl (hb hby d3_37) rfl (l' := #[.val (.ref oa), .val (.long qe), .second, .val (.long qc), .second, .val (.int (1 : Int32))]) rfl ?_
      refine XS.aloadN X3.here hx rfl (hb hby d3_39) rfl rfl ?_
      refine st62 _ ?_
      refine XS.aloadN X62.here hx rfl (hb hby d3_43) rfl rfl ?_
      refine st63 _ ?_
      show Steps p.tables e below (T63.setTop (mkF m 47 #[.val (.ref oa), .val (.long qe), .second, .val (.long qc), .second, .val (.int (1 : Int32))] [(.ref ea), (.int (1 : Int32))])) _
      refine X63.arraylength hx (by rw [e63]; exact Ar64.1) (State.isArrayOf_alike hZ.alike Ar64.2.1) (g := (mkF m 47 #[.val (.ref oa), .val (.long qe), .second, .val (.long qc), .second, .val (.int (1 : Int32))] [(.ref ea), (.int (1 : Int32))])) rfl rfl (hb hby d3_47) _ ?_
      rw [len_of S64 M64]
      refine XS.icmpYes X63.here hx rfl (pc0 := 48) (pc' := 85) rfl (hb hby d3_48) rfl (own_feq (a := (1 : Int32)) (b := (16 : Int32)) (by decide) (by decide) hc48_65).2 (by decide) (by decide) ?_
      refine XS.aloadN X63.here hx rfl (hb hby d3_85) rfl rfl ?_
      refine st66 _ ?_
      refine XS.iload X66.here hx rfl (hb hby d3_89) rfl ?_
      show Steps p.tables e below (T66.setTop (mkF m 91 #[.val (.ref oa), .val (.long qe), .second, .val (.long qc), .second, .val (.int (1 : Int32))] [(.int (1 : Int32)), (.ref ea)])) _
      refine XS.aloadN X66.here hx rfl (hb hby d3_91) rfl rfl ?_
      refine st67 _ ?_
      refine XS.iload X67.here hx rfl (hb hby d3_95) rfl ?_
      refine XS.iconst X67.here hx rfl (hb hby d3_97) ?_
      refine XS.iadd X67.here hx rfl (hb hby d3_98) rfl ?_
      show Steps p.tables e below (T67.setTop (mkF m 99 #[.val (.ref oa), .val (.long qe), .second, .val (.long qc), .second, .val (.int (1 : Int32))] [(.int (2 : Int32)), (.ref ea), (.int (1 : Int32)), (.ref ea)])) _
      refine XS.aloadN X67.here hx rfl (hb hby d3_99) rfl rfl ?_
      refine st68 _ ?_
      refine XS.iload X68.here hx rfl (hb hby d3_103) rfl ?_
      refine XS.isub X68.here hx rfl (hb hby d3_105) rfl ?_
      refine st69 _ ?_
      show Steps p.tables e below (T69.setTop (mkF m 109 #[.val (.ref oa), .val (.long qe), .second, .val (.long qc), .second, .val (.int (1 : Int32))] [])) _
      refine XS.aloadN X69.here hx rfl (hb hby d3_109) rfl rfl ?_
      refine st72 _ ?_
      refine XS.iload X72.here hx rfl (hb hby d3_113) rfl ?_
      refine XS.aloadN X72.here hx rfl (hb hby d3_115) rfl rfl ?_
      refine st73 _ ?_
      show Steps p.tables e below (T73.setTop (mkF m 119 #[.val (.ref oa), .val (.long qe), .second, .val (.long qc), .second, .val (.int (1 : Int32))] [(.ref ca), (.int (1 : Int32)), (.ref ca)])) _
      refine XS.iload X73.here hx rfl (hb hby d3_119) rfl ?_
      refine XS.iconst X73.here hx rfl (hb hby d3_121) ?_
      refine XS.iadd X73.here hx rfl (hb hby d3_122) rfl ?_
      refine XS.aloadN X73.here hx rfl (hb hby d3_123) rfl rfl ?_
      refine st75 _ ?_
      show Steps p.tables e below (T75.setTop (mkF m 127 #[.val (.ref oa), .val (.long qe), .second, .val (.long qc), .second, .val (.int (1 : Int32))] [(.int (1 : Int32)), (.int (2 : Int32)), (.ref ca), (.int (1 : Int32)), (.ref ca)])) _
      refine XS.iload X75.here hx rfl (hb hby d3_127) rfl ?_
      refine XS.isub X75.here hx rfl (hb hby d3_129) rfl ?_
      refine st77 _ ?_
      refine XS.aloadN X77.here hx rfl (hb hby d3_133) rfl rfl ?_
      refine st80 _ ?_
      show Steps p.tables e below (T80.setTop (mkF m 137 #[.val (.ref oa), .val (.long qe), .second, .val (.long qc), .second, .val (.int (1 : Int32))] [(.ref ea)])) _
      refine XS.iload X80.here hx rfl (hb hby d3_137) rfl ?_
      refine XS.lloadN X80.here hx rfl (hb hby d3_139) rfl ?_
      refine st83 _ ?_
      refine XS.aloadN X83.here hx rfl (hb hby d3_141) rfl rfl ?_
      refine st86 _ ?_
      show Steps p.tables e below (T86.setTop (mkF m 145 #[.val (.ref oa), .val (.long qe), .second, .val (.long qc), .second, .val (.int (1 : Int32))] [(.ref ca)])) _
      refine XS.iload X86.here hx rfl (hb hby d3_145) rfl ?_
      refine XS.lloadN X86.here hx rfl (hb hby d3_147) rfl ?_
      refine st89 _ ?_
      refine XS.aloadN X89.here hx rfl (hb hby d3_149) rfl rfl ?_
      refine XS.dup X89.here hx rfl (hb hby d3_150) rfl rfl ?_
      show Steps p.tables e below (T89.setTop (mkF m 151 #[.val (.ref oa), .val (.long qe), .second, .val (.long qc), .second, .val (.int (1 : Int32))] [(.ref oa), (.ref oa)])) _
      refine st92 _ ?_
      refine XS.iconst X92.here hx rfl (hb hby d3_154) ?_
      refine XS.iadd X92.here hx rfl (hb hby d3_155) rfl ?_
      refine st94 _ ?_
      exact X94.returnOut hx Bd.returns (hb hby d3_159) hr
    · show Q_add1 Z oa qe qc ea ca kE kC x0 c0 h0 n0 _ T94.heap _
      rw [e94]
      have f96 := ((((((Keep.refl h0 [oa, ea, ca]).trans K69 (allS (P := fun x => x ∈ [oa, ea, ca] ∨ h0.size ≤ x) (Or.inl (List.mem_of_getElem? (i := 1) rfl)) all0)).trans K77 (allS (P := fun x => x ∈ [oa, ea, ca] ∨ h0.size ≤ x) (Or.inl (List.mem_of_getElem? (i := 2) rfl)) all0)).wr W83 (Or.inl (List.mem_of_getElem? (i := 1) rfl))).wr W89 (Or.inl (List.mem_of_getElem? (i := 2) rfl))).wr W94 (Or.inl (List.mem_of_getElem? (i := 0) rfl)))
      have f97 := (f93.wr W94)
      have f98 := (((f79.other W83 (Or.inl nae)).other W89 (Or.inl nac)).other W94 (Or.inr (slot_ne (Or.inl (hw _ (List.mem_of_getElem? (i := 11) rfl))) (Or.inl (hw _ (List.mem_of_getElem? (i := 20) rfl))) (by decide) (t := (.array .long)) (t' := .int) (by decide) (by decide))))
      have f99 := ((f85.other W89 (Or.inl nac)).other W94 (Or.inr (slot_ne (Or.inl (hw _ (List.mem_of_getElem? (i := 13) rfl))) (Or.inl (hw _ (List.mem_of_getElem? (i := 20) rfl))) (by decide) (t := (.array .long)) (t' := .int) (by decide) (by decide))))
      have f100 := ((V83.other W89 nec).other W94 (Ne.symm nae))
      have f101 := (V89.other W94 (Ne.symm nac))
      exact ⟨rfl, N94, f96, f97, f98, f99, Or.inr ⟨x0, qe, c0, qc, Fw94, f100, f101, by omega, by omega, by omega, by omega, fun s => by omega⟩⟩
theorem ef_rm_add2 (m : MethodId) (x0 : Addr) (x1 : Int64) (x2 : Int64) : entryFrame m #[(.ref x0), (.long x1), (.long x2)] 6 = mkF m 0 #[.val (.ref x0), .val (.long x1), .second, .val (.long x2), .second, .unset] [] := by first | (simp [entryFrame, mkF, argsToLocals, Value.category]; done) | rfl
def Q_add2 (Z : State) (oa : Addr) (qe : Int64) (qc : Int64) (ea : Addr) (ca : Addr) (kE : ClassId) (kC : ClassId) (x0 : Int64) (x1 : Int64) (c0 : Int64) (c1 : Int64) (h0 : Heap) (n0 : Nat) (v : Option Value) (h : Heap) (L : List Loc) : Prop := v = none ∧ Fr n0 L ∧ Keep h0 h [oa, ea, ca] ∧ Exa Z h oa "com/example/foreslot/foreslot/CountsByEnd" ∧ Fld Z h oa "com/example/foreslot/foreslot/CountsByEnd" "ends" "[J" (.ref ea) ∧ Fld Z h oa "com/example/foreslot/foreslot/CountsByEnd" "counts" "[J" (.ref ca) ∧ ((∃ y0 y1 d0 d1 : Int64, Fld Z h oa "com/example/foreslot/foreslot/CountsByEnd" "size" "I" (.int (2 : Int32)) ∧ Arv Z h ea kE .long (16 : Int32) [(.long y0), (.long y1), (.long (0 : Int64)), (.long (0 : Int64))] (.long (0 : Int64)) ∧ Arv Z h ca kC .long (16 : Int32) [(.long d0), (.long d1), (.long (0 : Int64)), (.long (0 : Int64))] (.long (0 : Int64)) ∧ y0.toInt < y1.toInt ∧ 1 ≤ d0.toInt ∧ 1 ≤ d1.toInt ∧ d0.toInt + d1.toInt = c0.toInt + c1.toInt + qc.toInt ∧ (∀ s : Int, own_f y0.toInt s d0.toInt + own_f y1.toInt s d1.toInt = own_f x0.toInt s c0.toInt + own_f x1.toInt s c1.toInt + own_f qe.toInt s qc.toInt)) ∨ (∃ y0 y1 y2 d0 d1 d2 : Int64, Fld Z h oa "com/example/foreslot/foreslot/CountsByEnd" "size" "I" (.int (3 : Int32)) ∧ Arv Z h ea kE .long (16 : Int32) [(.long y0), (.long y1), (.long y2), (.long (0 : Int64))] (.long (0 : Int64)) ∧ Arv Z h ca kC .long (16 : Int32) [(.long d0), (.long d1), (.long d2), (.long (0 : Int64))] (.long (0 : Int64)) ∧ y0.toInt < y1.toInt ∧ y1.toInt < y2.toInt ∧ 1 ≤ d0.toInt ∧ 1 ≤ d1.toInt ∧ 1 ≤ d2.toInt ∧ d0.toInt + d1.toInt + d2.toInt = c0.toInt + c1.toInt + qc.toInt ∧ (∀ s : Int, own_f y0.toInt s d0.toInt + own_f y1.toInt s d1.toInt + own_f y2.toInt s d2.toInt = own_f x0.toInt s c0.toInt + own_f x1.toInt s c1.toInt + own_f qe.toInt s qc.toInt)))
set_option maxRecDepth 65536 in
set_option maxHeartbeats 40000000 in
theorem rm_add2 (l : Launch) (Z : State) (a0 : Array Value) (hw : ∀ d ∈ tables_1, d.before a0 Z = true) (ws : List Jvm.Cond) (oa : Addr) (qe : Int64) (qc : Int64) (ea : Addr) (ca : Addr) (kE : ClassId) (kC : ClassId) (x0 : Int64) (x1 : Int64) (c0 : Int64) (c1 : Int64) (h0 : Heap) (n0 : Nat) (Z0 : n0 ≤ h0.size) (Ea : Exa Z h0 oa "com/example/foreslot/foreslot/CountsByEnd") (F0 : Fld Z h0 oa "com/example/foreslot/foreslot/CountsByEnd" "ends" "[J" (.ref ea)) (F1 : Fld Z h0 oa "com/example/foreslot/foreslot/CountsByEnd" "counts" "[J" (.ref ca)) (F2 : Fld Z h0 oa "com/example/foreslot/foreslot/CountsByEnd" "size" "I" (.int (2 : Int32))) (V0 : Arv Z h0 ea kE .long (16 : Int32) [(.long x0), (.long x1), (.long (0 : Int64)), (.long (0 : Int64))] (.long (0 : Int64))) (V1 : Arv Z h0 ca kC .long (16 : Int32) [(.long c0), (.long c1), (.long (0 : Int64)), (.long (0 : Int64))] (.long (0 : Int64))) (ga : n0 ≤ oa) (ge : n0 ≤ ea) (gc : n0 ≤ ca) (nae : oa ≠ ea) (nac : oa ≠ ca) (nec : ea ≠ ca) (os0 : x0.toInt < x1.toInt) (kc0 : 1 ≤ c0.toInt) (kc1 : 1 ≤ c1.toInt) (kq : 1 ≤ qc.toInt) (kt : c0.toInt + c1.toInt + qc.toInt ≤ 100000) :
    MetFree l (⟨"com/example/foreslot/foreslot/CountsByEnd", "add", "(JJ)V"⟩ : MethodName) (head1 (Jvm.Cond.code (⟨"com/example/foreslot/foreslot/CountsByEnd", "add", "(JJ)V"⟩ : MethodName) prog_20_method_2_code 6 none :: ws) ({ frames := 2, cells := 0, slots := 0, locals := 37 } : Room)) (fun a U => a = #[(.ref oa), (.long qe), (.long qc)] ∧ Z.Warmed39 U.vm ∧ U.heap = h0) (fun _ _ _ _ _ => True) (fun _ U o U' => ∃ v L, o = .returned v ∧ Q_add2 Z oa qe qc ea ca kE kC x0 x1 c0 c1 h0 n0 v U'.heap L ∧ FrameEnd U o U' L ({ frames := 2, cells := 0, slots := 0, locals := 37 } : Room).cells ({ frames := 2, cells := 0, slots := 0, locals := 37 } : Room).slots) := by
  refine MetFree.of_bodySF (plainFor_of_name pn_1) hisR ?_
  intro p e s m args below meth c s₁ Bd hml0 hP hK
  obtain ⟨rfl, hZ, hh⟩ := hP
  have hx := Bd.exec
  have hby := Bd.bytes
  have hml : c.maxLocals = 6 := hml0
  have hown : s.vm.findClass "com/example/foreslot/foreslot/CountsByEnd" = some m.cls := findClass_of_methodNamed Bd.named
  have hnm := (name_of_methodNamed Bd.named Bd.method).1
  have X0 : Stand p l e ({ frames := 2, cells := 0, slots := 0, locals := 37 } : Room) s m #[(.ref oa), (.long qe), (.long qc)] below meth c s₁ [] 0 0 := Stand.of_body Bd
  have e0 : s₁.heap = h0 := by rw [← hh, Bd.state]; rfl
  have N0 := Fr.nil n0
  have pre0 : ∀ t, Steps p.tables e below (s₁.setTop (mkF m 0 #[.val (.ref oa), .val (.long qe), .second, .val (.long qc), .second, .unset] [])) t → Steps p.tables e below (s₁.setTop (entryFrame m #[(.ref oa), (.long qe), (.long qc)] 6)) t := fun t k => castTop (ef_rm_add2 m oa qe qc) k
  obtain ⟨T1, X1, e1, st1⟩ := getF X0 hx hZ hown (host := "") (Or.inl (hw _ (List.mem_of_getElem? (i := 10) rfl))) Via.refl e0 F0 (g := (mkF m 1 #[.val (.ref oa), .val (.long qe), .second, .val (.long qc), .second, .unset] [(.ref oa)])) rfl rfl (hb hby d3_1)
  obtain ⟨T2, X2, e2, st2⟩ := getF X1 hx hZ hown (host := "") (Or.inl (hw _ (List.mem_of_getElem? (i := 19) rfl))) Via.refl e1 F2 (g := (mkF m 6 #[.val (.ref oa), .val (.long qe), .second, .val (.long qc), .second, .unset] [(.ref oa), (.int (0 : Int32)), (.ref ea)])) rfl rfl (hb hby d3_6)
  obtain ⟨_, _, ⟨T3, L3, k3, n3⟩, -, X3, ⟨Lc3, hQ3, l3, y3, z3⟩, st3⟩ := Jvm.LawKit.callS X2 hx (y := (⟨"java/util/Arrays", "binarySearch", "([JIIJ)I"⟩ : MethodName)) hown (mvT hZ (hw _ (List.mem_of_getElem? (i := 21) rfl))) (mvT hZ (hw _ (List.mem_of_getElem? (i := 22) rfl))) (mvT hZ (hw _ (List.mem_of_getElem? (i := 23) rfl))) (mvT hZ (hw _ (List.mem_of_getElem? (i := 24) rfl))) (by decide) (backOf (W := 0) (rm_bs2 l Z a0 hw [] ea qe kE x0 x1 h0 n0 Z0 V0 os0) hZ (hw _ (List.mem_of_getElem? (i := 24) rfl)) (hw _ (List.mem_of_getElem? (i := 23) rfl)) (by decide) (by decide)) (g := (mkF m 10 #[.val (.ref oa), .val (.long qe), .second, .val (.long qc), .second, .unset] [(.long qe), (.int (2 : Int32)), (.int (0 : Int32)), (.ref ea)])) rfl (by rw [hml]; rfl) (argsL := [(.ref ea), (.int (0 : Int32)), (.int (2 : Int32)), (.long qe)]) (rest := []) (lenOf pd_1 rfl) rfl (by show 2 * 0 + _ ≤ _; exact Nat.le_of_eq rfl) (hb hby d3_10) (fun _ _ => ⟨rfl, e2, (by decide : 0 + 0 ≤ _), (by decide : 0 + 0 ≤ _)⟩)
  dsimp only [Pt.U, Pt.locs, Pt.cells, Pt.slots] at X3 l3 y3 z3 st3 hQ3
  subst l3 y3 z3
  obtain ⟨rb, rfl, hrb, N3q, e3⟩ := hQ3
  have N3 := Fr.app N0 N3q
  have pre4 : ∀ t, Steps p.tables e below (T3.setTop (mkF m 13 #[.val (.ref oa), .val (.long qe), .second, .val (.long qc), .second, .unset] [(.int rb)])) t → Steps p.tables e below (s₁.setTop (entryFrame m #[(.ref oa), (.long qe), (.long qc)] 6)) t := fun t kt => by
    refine pre0 _ ?_
    refine XS.aloadN X0.here hx rfl (hb hby d3_0) rfl rfl ?_
    refine st1 _ ?_
    refine XS.iconst X1.here hx rfl (hb hby d3_4) ?_
    refine XS.aloadN X1.here hx rfl (hb hby d3_5) rfl rfl ?_
    show Steps p.tables e below (T1.setTop (mkF m 6 #[.val (.ref oa), .val (.long qe), .second, .val (.long qc), .second, .unset] [(.ref oa), (.int (0 : Int32)), (.ref ea)])) _
    refine st2 _ ?_
    refine XS.lloadN X2.here hx rfl (hb hby d3_9) rfl ?_
    refine st3 _ ?_
    exact kt
  rcases hrb with ⟨rfl, hq⟩ | ⟨rfl, hq⟩ | ⟨rfl, hq⟩ | ⟨rfl, hq, hq2⟩ | ⟨rfl, hq⟩
  · have pre5 : ∀ t, Steps p.tables e below (T3.setTop (mkF m 13 #[.val (.ref oa), .val (.long qe), .second, .val (.long qc), .second, .unset] [(.int (0 : Int32))])) t → Steps p.tables e below (s₁.setTop (entryFrame m #[(.ref oa), (.long qe), (.long qc)] 6)) t := pre4
    have hc17_6 : ¬ ((0 : Int) < (0 : Int)) := by decide
    obtain ⟨T7, X7, e7, st7⟩ := getF X3 hx hZ hown (host := "") (Or.inl (hw _ (List.mem_of_getElem? (i := 12) rfl))) Via.refl e3 F1 (g := (mkF m 21 #[.val (.ref oa), .val (.long qe), .second, .val (.long qc), .second, .val (.int (0 : Int32))] [(.ref oa)])) rfl rfl (hb hby d3_21)
    obtain ⟨cl8, Ar8, q8, S8, M8, H8, G8⟩ := id V1
    have hin8 : ¬ ((0 : Int32) < 0 ∨ cl8.slots.size ≤ ((0 : Int32)).toNatClampNeg) := inb_of S8 ⟨by decide, by decide⟩
    have hat8 : cl8.slots[((0 : Int32)).toNatClampNeg]? = some (.long c0) := Has.at H8 hin8 rfl
    obtain ⟨cl9, Ar9, q9, S9, M9, H9, G9⟩ := id V1
    have hin9 : ¬ ((0 : Int32) < 0 ∨ cl9.slots.size ≤ ((0 : Int32)).toNatClampNeg) := inb_of S9 ⟨by decide, by decide⟩
    obtain ⟨T10, h10, X10, e10, W10, st10⟩ := stJ X7 hx hZ e7 Ar9 (j := (0 : Int32)) hin9 (g := (mkF m 30 #[.val (.ref oa), .val (.long qe), .second, .val (.long qc), .second, .val (.int (0 : Int32))] [(.long (c0 + qc)), (.int (0 : Int32)), (.ref ca)])) rfl rfl (hb hby d3_30)
    have N10 := Fr.snoc X10 N3 gc
    have Zs11 : n0 ≤ h10.size := by rw [W10.size]; exact Z0
    have V10 : Arv Z h10 ca kC .long (16 : Int32) [(.long (c0 + qc)), (.long c1), (.long (0 : Int64)), (.long (0 : Int64))] (.long (0 : Int64)) := Arv.set Ar9 q9 S9 M9 H9 G9 rfl W10 0 rfl (Nat.le_of_ble_eq_true rfl)
    obtain ⟨fs, hr, hrun, hended, hW, hsame⟩ := X10.leave (v := none) (fun _ => rfl)
    refine ⟨_, _, pre5 _ ?_, hrun, hended, _, _, rfl, ?_, ⟨_, rfl⟩, hW, hsame.mono (by decide) (by decide)⟩
    · refine XS.istore X3.here hx rfl (hb hby d3_13) rfl (l' := #[.val (.ref oa), .val (.long qe), .second, .val (.long qc), .second, .val (.int (0 : Int32))]) rfl ?_
      refine XS.iload X3.here hx rfl (hb hby d3_15) rfl ?_
      show Steps p.tables e below (T3.setTop (mkF m 17 #[.val (.ref oa), .val (.long qe), .second, .val (.long qc), .second, .val (.int (0 : Int32))] [(.int (0 : Int32))])) _
      refine XS.ifNo X3.here hx rfl (hb hby d3_17) rfl (own_if (own_flt (a := (0 : Int32)) (b := (0 : Int32)) (by decide) (by decide) hc17_6).1) ?_
      refine XS.aloadN X3.here hx rfl (hb hby d3_20) rfl rfl ?_
      refine st7 _ ?_
      refine XS.iload X7.here hx rfl (hb hby d3_24) rfl ?_
      jvm_step X7.here [X7.here.top, hx, (hb hby d3_26), Value.category]
      show Steps p.tables e below (T7.setTop (mkF m 27 #[.val (.ref oa), .val (.long qe), .second, .val (.long qc), .second, .val (.int (0 : Int32))] [(.int (0 : Int32)), (.ref ca), (.int (0 : Int32)), (.ref ca)])) _
      refine X7.laload hx (j := (0 : Int32)) (v := (.long c0)) (by rw [e7]; exact Ar8.1) (State.isArrayOf_alike hZ.alike Ar8.2.1) Ar8.2.2 hin8 hat8 (g := (mkF m 27 #[.val (.ref oa), .val (.long qe), .second, .val (.long qc), .second, .val (.int (0 : Int32))] [(.int (0 : Int32)), (.ref ca), (.int (0 : Int32)), (.ref ca)])) rfl rfl (hb hby d3_27) _ ?_
      refine XS.lloadN X7.here hx rfl (hb hby d3_28) rfl ?_
      refine XS.ladd X7.here hx rfl (hb hby d3_29) rfl ?_
      refine st10 _ ?_
      exact X10.returnOut hx Bd.returns (hb hby d3_31) hr
    · show Q_add2 Z oa qe qc ea ca kE kC x0 x1 c0 c1 h0 n0 _ T10.heap _
      rw [e10]
      have f12 := ((Keep.refl h0 [oa, ea, ca]).wr W10 (Or.inl (List.mem_of_getElem? (i := 2) rfl)))
      have f13 := (Ea.wr W10)
      have f14 := (F0.other W10 (Or.inl nac))
      have f15 := (F1.other W10 (Or.inl nac))
      have f16 := (F2.other W10 (Or.inl nac))
      have f17 := (V0.other W10 nec)
      have iadd : ((c0 + qc)).toInt = c0.toInt + qc.toInt := by have := rng64 c0; have := rng64 qc; (first | (have : ((c0 + qc)).toInt = c0.toInt + qc.toInt := (by have : (((c0 + qc)).toInt - (c0.toInt + qc.toInt)) % 18446744073709551616 = 0 := c_ladd c0 qc; have := rng64 (c0 + qc); omega)) | (have : (((c0 + qc)).toInt - (c0.toInt + qc.toInt)) % 18446744073709551616 = 0 := c_ladd c0 qc; have := rng64 (c0 + qc))); omega
      exact ⟨rfl, N10, f12, f13, f14, f15, Or.inl ⟨x0, x1, (c0 + qc), c1, f16, f17, V10, by omega, by omega, by omega, by omega, fun s => by rw [iadd, show qe.toInt = x0.toInt from hq.symm]; unfold own_f; split <;> omega⟩⟩
  · have pre18 : ∀ t, Steps p.tables e below (T3.setTop (mkF m 13 #[.val (.ref oa), .val (.long qe), .second, .val (.long qc), .second, .unset] [(.int (1 : Int32))])) t → Steps p.tables e below (s₁.setTop (entryFrame m #[(.ref oa), (.long qe), (.long qc)] 6)) t := pre4
    have hc17_19 : ¬ ((1 : Int) < (0 : Int)) := by decide
    obtain ⟨T20, X20, e20, st20⟩ := getF X3 hx hZ hown (host := "") (Or.inl (hw _ (List.mem_of_getElem? (i := 12) rfl))) Via.refl e3 F1 (g := (mkF m 21 #[.val (.ref oa), .val (.long qe), .second, .val (.long qc), .second, .val (.int (1 : Int32))] [(.ref oa)])) rfl rfl (hb hby d3_21)
    obtain ⟨cl21, Ar21, q21, S21, M21, H21, G21⟩ := id V1
    have hin21 : ¬ ((1 : Int32) < 0 ∨ cl21.slots.size ≤ ((1 : Int32)).toNatClampNeg) := inb_of S21 ⟨by decide, by decide⟩
    have hat21 : cl21.slots[((1 : Int32)).toNatClampNeg]? = some (.long c1) := Has.at H21 hin21 rfl
    obtain ⟨cl22, Ar22, q22, S22, M22, H22, G22⟩ := id V1
    have hin22 : ¬ ((1 : Int32) < 0 ∨ cl22.slots.size ≤ ((1 : Int32)).toNatClampNeg) := inb_of S22 ⟨by decide, by decide⟩
    obtain ⟨T23, h23, X23, e23, W23, st23⟩ := stJ X20 hx hZ e20 Ar22 (j := (1 : Int32)) hin22 (g := (mkF m 30 #[.val (.ref oa), .val (.long qe), .second, .val (.long qc), .second, .val (.int (1 : Int32))] [(.long (c1 + qc)), (.int (1 : Int32)), (.ref ca)])) rfl rfl (hb hby d3_30)
    have N23 := Fr.snoc X23 N3 gc
    have Zs24 : n0 ≤ h23.size := by rw [W23.size]; exact Z0
    have V23 : Arv Z h23 ca kC .long (16 : Int32) [(.long c0), (.long (c1 + qc)), (.long (0 : Int64)), (.long (0 : Int64))] (.long (0 : Int64)) := Arv.set Ar22 q22 S22 M22 H22 G22 rfl W23 1 rfl (Nat.le_of_ble_eq_true rfl)
    obtain ⟨fs, hr, hrun, hended, hW, hsame⟩ := X23.leave (v := none) (fun _ => rfl)
    refine ⟨_, _, pre18 _ ?_, hrun, hended, _, _, rfl, ?_, ⟨_, rfl⟩, hW, hsame.mono (by decide) (by decide)⟩
    · refine XS.istore X3.here hx rfl (hb hby d3_13) rfl (l' := #[.val (.ref oa), .val (.long qe), .second, .val (.long qc), .second, .val (.int (1 : Int32))]) rfl ?_
      refine XS.iload X3.here hx rfl (hb hby d3_15) rfl ?_
      show Steps p.tables e below (T3.setTop (mkF m 17 #[.val (.ref oa), .val (.long qe), .second, .val (.long qc), .second, .val (.int (1 : Int32))] [(.int (1 : Int32))])) _
      refine XS.ifNo X3.here hx rfl (hb hby d3_17) rfl (own_if (own_flt (a := (1 : Int32)) (b := (0 : Int32)) (by decide) (by decide) hc17_19).1) ?_
      refine XS.aloadN X3.here hx rfl (hb hby d3_20) rfl rfl ?_
      refine st20 _ ?_
      refine XS.iload X20.here hx rfl (hb hby d3_24) rfl ?_
      jvm_step X20.here [X20.here.top, hx, (hb hby d3_26), Value.category]
      show Steps p.tables e below (T20.setTop (mkF m 27 #[.val (.ref oa), .val (.long qe), .second, .val (.long qc), .second, .val (.int (1 : Int32))] [(.int (1 : Int32)), (.ref ca), (.int (1 : Int32)), (.ref ca)])) _
      refine X20.laload hx (j := (1 : Int32)) (v := (.long c1)) (by rw [e20]; exact Ar21.1) (State.isArrayOf_alike hZ.alike Ar21.2.1) Ar21.2.2 hin21 hat21 (g := (mkF m 27 #[.val (.ref oa), .val (.long qe), .second, .val (.long qc), .second, .val (.int (1 : Int32))] [(.int (1 : Int32)), (.ref ca), (.int (1 : Int32)), (.ref ca)])) rfl rfl (hb hby d3_27) _ ?_
      refine XS.lloadN X20.here hx rfl (hb hby d3_28) rfl ?_
      refine XS.ladd X20.here hx rfl (hb hby d3_29) rfl ?_
      refine st23 _ ?_
      exact X23.returnOut hx Bd.returns (hb hby d3_31) hr
    · show Q_add2 Z oa qe qc ea ca kE kC x0 x1 c0 c1 h0 n0 _ T23.heap _
      rw [e23]
      have f25 := ((Keep.refl h0 [oa, ea, ca]).wr W23 (Or.inl (List.mem_of_getElem? (i := 2) rfl)))
      have f26 := (Ea.wr W23)
      have f27 := (F0.other W23 (Or.inl nac))
      have f28 := (F1.other W23 (Or.inl nac))
      have f29 := (F2.other W23 (Or.inl nac))
      have f30 := (V0.other W23 nec)
      have iadd : ((c1 + qc)).toInt = c1.toInt + qc.toInt := by have := rng64 c1; have := rng64 qc; (first | (have : ((c1 + qc)).toInt = c1.toInt + qc.toInt := (by have : (((c1 + qc)).toInt - (c1.toInt + qc.toInt)) % 18446744073709551616 = 0 := c_ladd c1 qc; have := rng64 (c1 + qc); omega)) | (have : (((c1 + qc)).toInt - (c1.toInt + qc.toInt)) % 18446744073709551616 = 0 := c_ladd c1 qc; have := rng64 (c1 + qc))); omega
      exact ⟨rfl, N23, f25, f26, f27, f28, Or.inl ⟨x0, x1, c0, (c1 + qc), f29, f30, V23, by omega, by omega, by omega, by omega, fun s => by rw [iadd, show qe.toInt = x1.toInt from hq.symm]; unfold own_f; split <;> omega⟩⟩
  · have pre31 : ∀ t, Steps p.tables e below (T3.setTop (mkF m 13 #[.val (.ref oa), .val (.long qe), .second, .val (.long qc), .second, .unset] [(.int (-1 : Int32))])) t → Steps p.tables e below (s₁.setTop (entryFrame m #[(.ref oa), (.long qe), (.long qc)] 6)) t := pre4
    have hc17_32 : (-1 : Int) < (0 : Int) := by decide
    obtain ⟨T33, X33, e33, st33⟩ := getF X3 hx hZ hown (host := "") (Or.inl (hw _ (List.mem_of_getElem? (i := 19) rfl))) Via.refl e3 F2 (g := (mkF m 40 #[.val (.ref oa), .val (.long qe), .second, .val (.long qc), .second, .val (.int (0 : Int32))] [(.ref oa)])) rfl rfl (hb hby d3_40)
    obtain ⟨T34, X34, e34, st34⟩ := getF X33 hx hZ hown (host := "") (Or.inl (hw _ (List.mem_of_getElem? (i := 10) rfl))) Via.refl e33 F0 (g := (mkF m 44 #[.val (.ref oa), .val (.long qe), .second, .val (.long qc), .second, .val (.int (0 : Int32))] [(.ref oa), (.int (2 : Int32))])) rfl rfl (hb hby d3_44)
    obtain ⟨cl35, Ar35, q35, S35, M35, H35, G35⟩ := id V0
    have hc48_36 : ¬ ((2 : Int) = (16 : Int)) := by decide
    obtain ⟨T37, X37, e37, st37⟩ := getF X34 hx hZ hown (host := "") (Or.inl (hw _ (List.mem_of_getElem? (i := 10) rfl))) Via.refl e34 F0 (g := (mkF m 86 #[.val (.ref oa), .val (.long qe), .second, .val (.long qc), .second, .val (.int (0 : Int32))] [(.ref oa)])) rfl rfl (hb hby d3_86)
    obtain ⟨T38, X38, e38, st38⟩ := getF X37 hx hZ hown (host := "") (Or.inl (hw _ (List.mem_of_getElem? (i := 10) rfl))) Via.refl e37 F0 (g := (mkF m 92 #[.val (.ref oa), .val (.long qe), .second, .val (.long qc), .second, .val (.int (0 : Int32))] [(.ref oa), (.int (0 : Int32)), (.ref ea)])) rfl rfl (hb hby d3_92)
    obtain ⟨T39, X39, e39, st39⟩ := getF X38 hx hZ hown (host := "") (Or.inl (hw _ (List.mem_of_getElem? (i := 19) rfl))) Via.refl e38 F2 (g := (mkF m 100 #[.val (.ref oa), .val (.long qe), .second, .val (.long qc), .second, .val (.int (0 : Int32))] [(.ref oa), (.int (1 : Int32)), (.ref ea), (.int (0 : Int32)), (.ref ea)])) rfl rfl (hb hby d3_100)
    obtain ⟨T40, h40, L40, X40, e40, N40, K40, V40, st40⟩ := cpA X39 hx hZ hown (hw _ (List.mem_of_getElem? (i := 31) rfl)) (hw _ (List.mem_of_getElem? (i := 34) rfl)) (hw _ (List.mem_of_getElem? (i := 32) rfl)) (hw _ (List.mem_of_getElem? (i := 33) rfl)) e39 V0 V0 (Or.inl ⟨rfl, rfl⟩) (by decide : ¬ (0 : Int32) < 0) (by decide : ¬ (1 : Int32) < 0) (by decide : ¬ (2 : Int32) < 0) (by decide) (by decide) (us := [(.long x0), (.long x1)]) rfl (Nat.le_of_ble_eq_true rfl) N3 ge (g := (mkF m 106 #[.val (.ref oa), .val (.long qe), .second, .val (.long qc), .second, .val (.int (0 : Int32))] [(.int (2 : Int32)), (.int (1 : Int32)), (.ref ea), (.int (0 : Int32)), (.ref ea)])) rfl (by rw [hml]; rfl) (rest := []) rfl (hb hby d3_106) (by decide) (W := 0) (by show 2 * 0 + _ ≤ _; exact Nat.le_of_eq rfl) (by decide)
    have Zs41 : n0 ≤ h40.size := Nat.le_trans Z0 K40.1
    have Vc40 : Arv Z h40 ea kE .long (16 : Int32) [(.long x0), (.long x0), (.long x1), (.long (0 : Int64))] (.long (0 : Int64)) := V40
    have f42 := (F1.keep K40 (ninS nae nin0))
    obtain ⟨T43, X43, e43, st43⟩ := getF X40 hx hZ hown (host := "") (Or.inl (hw _ (List.mem_of_getElem? (i := 12) rfl))) Via.refl e40 f42 (g := (mkF m 110 #[.val (.ref oa), .val (.long qe), .second, .val (.long qc), .second, .val (.int (0 : Int32))] [(.ref oa)])) rfl rfl (hb hby d3_110)
    obtain ⟨T44, X44, e44, st44⟩ := getF X43 hx hZ hown (host := "") (Or.inl (hw _ (List.mem_of_getElem? (i := 12) rfl))) Via.refl e43 f42 (g := (mkF m 116 #[.val (.ref oa), .val (.long qe), .second, .val (.long qc), .second, .val (.int (0 : Int32))] [(.ref oa), (.int (0 : Int32)), (.ref ca)])) rfl rfl (hb hby d3_116)
    have f45 := (F2.keep K40 (ninS nae nin0))
    obtain ⟨T46, X46, e46, st46⟩ := getF X44 hx hZ hown (host := "") (Or.inl (hw _ (List.mem_of_getElem? (i := 19) rfl))) Via.refl e44 f45 (g := (mkF m 124 #[.val (.ref oa), .val (.long qe), .second, .val (.long qc), .second, .val (.int (0 : Int32))] [(.ref oa), (.int (1 : Int32)), (.ref ca), (.int (0 : Int32)), (.ref ca)])) rfl rfl (hb hby d3_124)
    have f47 := (V1.keep K40 (ninS (Ne.symm nec) nin0))
    obtain ⟨T48, h48, L48, X48, e48, N48, K48, V48, st48⟩ := cpA X46 hx hZ hown (hw _ (List.mem_of_getElem? (i := 31) rfl)) (hw _ (List.mem_of_getElem? (i := 34) rfl)) (hw _ (List.mem_of_getElem? (i := 32) rfl)) (hw _ (List.mem_of_getElem? (i := 33) rfl)) e46 f47 f47 (Or.inl ⟨rfl, rfl⟩) (by decide : ¬ (0 : Int32) < 0) (by decide : ¬ (1 : Int32) < 0) (by decide : ¬ (2 : Int32) < 0) (by decide) (by decide) (us := [(.long c0), (.long c1)]) rfl (Nat.le_of_ble_eq_true rfl) N40 gc (g := (mkF m 130 #[.val (.ref oa), .val (.long qe), .second, .val (.long qc), .second, .val (.int (0 : Int32))] [(.int (2 : Int32)), (.int (1 : Int32)), (.ref ca), (.int (0 : Int32)), (.ref ca)])) rfl (by rw [hml]; rfl) (rest := []) rfl (hb hby d3_130) (by decide) (W := 0) (by show 2 * 0 + _ ≤ _; exact Nat.le_of_eq rfl) (by decide)
    have Zs49 : n0 ≤ h48.size := Nat.le_trans Zs41 K48.1
    have Vc48 : Arv Z h48 ca kC .long (16 : Int32) [(.long c0), (.long c0), (.long c1), (.long (0 : Int64))] (.long (0 : Int64)) := V48
    have f50 := ((F0.keep K40 (ninS nae nin0)).keep K48 (ninS nac nin0))
    obtain ⟨T51, X51, e51, st51⟩ := getF X48 hx hZ hown (host := "") (Or.inl (hw _ (List.mem_of_getElem? (i := 10) rfl))) Via.refl e48 f50 (g := (mkF m 134 #[.val (.ref oa), .val (.long qe), .second, .val (.long qc), .second, .val (.int (0 : Int32))] [(.ref oa)])) rfl rfl (hb hby d3_134)
    have f52 := (Vc40.keep K48 (ninS nec nin0))
    obtain ⟨cl53, Ar53, q53, S53, M53, H53, G53⟩ := id f52
    have hin53 : ¬ ((0 : Int32) < 0 ∨ cl53.slots.size ≤ ((0 : Int32)).toNatClampNeg) := inb_of S53 ⟨by decide, by decide⟩
    obtain ⟨T54, h54, X54, e54, W54, st54⟩ := stJ X51 hx hZ e51 Ar53 (j := (0 : Int32)) hin53 (g := (mkF m 140 #[.val (.ref oa), .val (.long qe), .second, .val (.long qc), .second, .val (.int (0 : Int32))] [(.long qe), (.int (0 : Int32)), (.ref ea)])) rfl rfl (hb hby d3_140)
    have N54 := Fr.snoc X54 N48 ge
    have Zs55 : n0 ≤ h54.size := by rw [W54.size]; exact Zs49
    have V54 : Arv Z h54 ea kE .long (16 : Int32) [(.long qe), (.long x0), (.long x1), (.long (0 : Int64))] (.long (0 : Int64)) := Arv.set Ar53 q53 S53 M53 H53 G53 rfl W54 0 rfl (Nat.le_of_ble_eq_true rfl)
    have f56 := ((f42.keep K48 (ninS nac nin0)).other W54 (Or.inl nae))
    obtain ⟨T57, X57, e57, st57⟩ := getF X54 hx hZ hown (host := "") (Or.inl (hw _ (List.mem_of_getElem? (i := 12) rfl))) Via.refl e54 f56 (g := (mkF m 142 #[.val (.ref oa), .val (.long qe), .second, .val (.long qc), .second, .val (.int (0 : Int32))] [(.ref oa)])) rfl rfl (hb hby d3_142)
    have f58 := (Vc48.other W54 (Ne.symm nec))
    obtain ⟨cl59, Ar59, q59, S59, M59, H59, G59⟩ := id f58
    have hin59 : ¬ ((0 : Int32) < 0 ∨ cl59.slots.size ≤ ((0 : Int32)).toNatClampNeg) := inb_of S59 ⟨by decide, by decide⟩
    obtain ⟨T60, h60, X60, e60, W60, st60⟩ := stJ X57 hx hZ e57 Ar59 (j := (0 : Int32)) hin59 (g := (mkF m 148 #[.val (.ref oa), .val (.long qe), .second, .val (.long qc), .second, .val (.int (0 : Int32))] [(.long qc), (.int (0 : Int32)), (.ref ca)])) rfl rfl (hb hby d3_148)
    have N60 := Fr.snoc X60 N54 gc
    have Zs61 : n0 ≤ h60.size := by rw [W60.size]; exact Zs55
    have V60 : Arv Z h60 ca kC .long (16 : Int32) [(.long qc), (.long c0), (.long c1), (.long (0 : Int64))] (.long (0 : Int64)) := Arv.set Ar59 q59 S59 M59 H59 G59 rfl W60 0 rfl (Nat.le_of_ble_eq_true rfl)
    have f62 := (((f45.keep K48 (ninS nac nin0)).other W54 (Or.inl nae)).other W60 (Or.inl nac))
    obtain ⟨T63, X63, e63, st63⟩ := getF X60 hx hZ hown (host := "") (Or.inl (hw _ (List.mem_of_getElem? (i := 19) rfl))) Via.refl e60 f62 (g := (mkF m 151 #[.val (.ref oa), .val (.long qe), .second, .val (.long qc), .second, .val (.int (0 : Int32))] [(.ref oa), (.ref oa)])) rfl rfl (hb hby d3_151)
    have f64 := ((((Ea.keep K40).keep K48).wr W54).wr W60)
    obtain ⟨T65, h65, X65, e65, W65, st65⟩ := putF X63 hx hZ hown (host := "") (Or.inl (hw _ (List.mem_of_getElem? (i := 19) rfl))) Via.refl e63 f62 f64 (Or.inl (hw _ (List.mem_of_getElem? (i := 20) rfl))) (hw _ (List.mem_of_getElem? (i := 1) rfl)) (ty := .int) (by decide) rfl rfl (g := (mkF m 156 #[.val (.ref oa), .val (.long qe), .second, .val (.long qc), .second, .val (.int (0 : Int32))] [(.int (3 : Int32)), (.ref oa)])) rfl rfl (hb hby d3_156)
    have N65 := Fr.snoc X65 N60 ga
    have Zs66 : n0 ≤ h65.size := by rw [W65.size]; exact Zs61
    have Fw65 := f62.same W65
    obtain ⟨fs, hr, hrun, hended, hW, hsame⟩ := X65.leave (v := none) (fun _ => rfl)
    refine ⟨_, _, pre31 _ ?_, hrun, hended, _, _, rfl, ?_, ⟨_, rfl⟩, hW, hsame.mono (by decide) (by decide)⟩
    · refine XS.istore X3.here hx rfl (hb hby d3_13) rfl (l' := #[.val (.ref oa), .val (.long qe), .second, .val (.long qc), .second, .val (.int (-1 : Int32))]) rfl ?_
      refine XS.iload X3.here hx rfl (hb hby d3_15) rfl ?_
      show Steps p.tables e below (T3.setTop (mkF m 17 #[.val (.ref oa), .val (.long qe), .second, .val (.long qc), .second, .val (.int (-1 : Int32))] [(.int (-1 : Int32))])) _
      refine XS.ifYes X3.here hx rfl (pc0 := 17) (pc' := 32) rfl (hb hby d3_17) rfl (own_if (own_tlt (a := (-1 : Int32)) (b := (0 : Int32)) (by decide) (by decide) hc17_32).1) (by decide) (by decide) ?_
      refine XS.iload X3.here hx rfl (hb hby d3_32) rfl ?_
      refine XS.ineg X3.here hx rfl (hb hby d3_34) rfl ?_
      refine XS.iconst X3.here hx rfl (hb hby d3_35) ?_
      refine XS.isub X3.here hx rfl (hb hby d3_36) rfl ?_
      show Steps p.tables e below (T3.setTop (mkF m 37 #[.val (.ref oa), .val (.long qe), .second, .val (.long qc), .second, .val (.int (-1 : Int32))] [(.int (0 : Int32))])) _
      refine XS.istore X3.here hx rfl (hb hby d3_37) rfl (l' := #[.val (.ref oa), .val (.long qe), .second, .val (.long qc), .second, .val (.int (0 : Int32))]) rfl ?_
      refine XS.aloadN X3.here hx rfl (hb hby d3_39) rfl rfl ?_
      refine st33 _ ?_
      refine XS.aloadN X33.here hx rfl (hb hby d3_43) rfl rfl ?_
      refine st34 _ ?_
      show Steps p.tables e below (T34.setTop (mkF m 47 #[.val (.ref oa), .val (.long qe), .second, .val (.long qc), .second, .val (.int (0 : Int32))] [(.ref ea), (.int (2 : Int32))])) _
      refine X34.arraylength hx (by rw [e34]; exact Ar35.1) (State.isArrayOf_alike hZ.alike Ar35.2.1) (g := (mkF m 47 #[.val (.ref oa), .val (.long qe), .second, .val (.long qc), .second, .val (.int (0 : Int32))] [(.ref ea), (.int (2 : Int32))])) rfl rfl (hb hby d3_47) _ ?_
      rw [len_of S35 M35]
      refine XS.icmpYes X34.here hx rfl (pc0 := 48) (pc' := 85) rfl (hb hby d3_48) rfl (own_feq (a := (2 : Int32)) (b := (16 : Int32)) (by decide) (by decide) hc48_36).2 (by decide) (by decide) ?_
      refine XS.aloadN X34.here hx rfl (hb hby d3_85) rfl rfl ?_
      refine st37 _ ?_
      refine XS.iload X37.here hx rfl (hb hby d3_89) rfl ?_
      show Steps p.tables e below (T37.setTop (mkF m 91 #[.val (.ref oa), .val (.long qe), .second, .val (.long qc), .second, .val (.int (0 : Int32))] [(.int (0 : Int32)), (.ref ea)])) _
      refine XS.aloadN X37.here hx rfl (hb hby d3_91) rfl rfl ?_
      refine st38 _ ?_
      refine XS.iload X38.here hx rfl (hb hby d3_95) rfl ?_
      refine XS.iconst X38.here hx rfl (hb hby d3_97) ?_
      refine XS.iadd X38.here hx rfl (hb hby d3_98) rfl ?_
      show Steps p.tables e below (T38.setTop (mkF m 99 #[.val (.ref oa), .val (.long qe), .second, .val (.long qc), .second, .val (.int (0 : Int32))] [(.int (1 : Int32)), (.ref ea), (.int (0 : Int32)), (.ref ea)])) _
      refine XS.aloadN X38.here hx rfl (hb hby d3_99) rfl rfl ?_
      refine st39 _ ?_
      refine XS.iload X39.here hx rfl (hb hby d3_103) rfl ?_
      refine XS.isub X39.here hx rfl (hb hby d3_105) rfl ?_
      refine st40 _ ?_
      show Steps p.tables e below (T40.setTop (mkF m 109 #[.val (.ref oa), .val (.long qe), .second, .val (.long qc), .second, .val (.int (0 : Int32))] [])) _
      refine XS.aloadN X40.here hx rfl (hb hby d3_109) rfl rfl ?_
      refine st43 _ ?_
      refine XS.iload X43.here hx rfl (hb hby d3_113) rfl ?_
      refine XS.aloadN X43.here hx rfl (hb hby d3_115) rfl rfl ?_
      refine st44 _ ?_
      show Steps p.tables e below (T44.setTop (mkF m 119 #[.val (.ref oa), .val (.long qe), .second, .val (.long qc), .second, .val (.int (0 : Int32))] [(.ref ca), (.int (0 : Int32)), (.ref ca)])) _
      refine XS.iload X44.here hx rfl (hb hby d3_119) rfl ?_
      refine XS.iconst X44.here hx rfl (hb hby d3_121) ?_
      refine XS.iadd X44.here hx rfl (hb hby d3_122) rfl ?_
      refine XS.aloadN X44.here hx rfl (hb hby d3_123) rfl rfl ?_
      refine st46 _ ?_
      show Steps p.tables e below (T46.setTop (mkF m 127 #[.val (.ref oa), .val (.long qe), .second, .val (.long qc), .second, .val (.int (0 : Int32))] [(.int (2 : Int32)), (.int (1 : Int32)), (.ref ca), (.int (0 : Int32)), (.ref ca)])) _
      refine XS.iload X46.here hx rfl (hb hby d3_127) rfl ?_
      refine XS.isub X46.here hx rfl (hb hby d3_129) rfl ?_
      refine st48 _ ?_
      refine XS.aloadN X48.here hx rfl (hb hby d3_133) rfl rfl ?_
      refine st51 _ ?_
      show Steps p.tables e below (T51.setTop (mkF m 137 #[.val (.ref oa), .val (.long qe), .second, .val (.long qc), .second, .val (.int (0 : Int32))] [(.ref ea)])) _
      refine XS.iload X51.here hx rfl (hb hby d3_137) rfl ?_
      refine XS.lloadN X51.here hx rfl (hb hby d3_139) rfl ?_
      refine st54 _ ?_
      refine XS.aloadN X54.here hx rfl (hb hby d3_141) rfl rfl ?_
      refine st57 _ ?_
      show Steps p.tables e below (T57.setTop (mkF m 145 #[.val (.ref oa), .val (.long qe), .second, .val (.long qc), .second, .val (.int (0 : Int32))] [(.ref ca)])) _
      refine XS.iload X57.here hx rfl (hb hby d3_145) rfl ?_
      refine XS.lloadN X57.here hx rfl (hb hby d3_147) rfl ?_
      refine st60 _ ?_
      refine XS.aloadN X60.here hx rfl (hb hby d3_149) rfl rfl ?_
      refine XS.dup X60.here hx rfl (hb hby d3_150) rfl rfl ?_
      show Steps p.tables e below (T60.setTop (mkF m 151 #[.val (.ref oa), .val (.long qe), .second, .val (.long qc), .second, .val (.int (0 : Int32))] [(.ref oa), (.ref oa)])) _
      refine st63 _ ?_
      refine XS.iconst X63.here hx rfl (hb hby d3_154) ?_
      refine XS.iadd X63.here hx rfl (hb hby d3_155) rfl ?_
      refine st65 _ ?_
      exact X65.returnOut hx Bd.returns (hb hby d3_159) hr
    · show Q_add2 Z oa qe qc ea ca kE kC x0 x1 c0 c1 h0 n0 _ T65.heap _
      rw [e65]
      have f67 := ((((((Keep.refl h0 [oa, ea, ca]).trans K40 (allS (P := fun x => x ∈ [oa, ea, ca] ∨ h0.size ≤ x) (Or.inl (List.mem_of_getElem? (i := 1) rfl)) all0)).trans K48 (allS (P := fun x => x ∈ [oa, ea, ca] ∨ h0.size ≤ x) (Or.inl (List.mem_of_getElem? (i := 2) rfl)) all0)).wr W54 (Or.inl (List.mem_of_getElem? (i := 1) rfl))).wr W60 (Or.inl (List.mem_of_getElem? (i := 2) rfl))).wr W65 (Or.inl (List.mem_of_getElem? (i := 0) rfl)))
      have f68 := (f64.wr W65)
      have f69 := (((f50.other W54 (Or.inl nae)).other W60 (Or.inl nac)).other W65 (Or.inr (slot_ne (Or.inl (hw _ (List.mem_of_getElem? (i := 11) rfl))) (Or.inl (hw _ (List.mem_of_getElem? (i := 20) rfl))) (by decide) (t := (.array .long)) (t' := .int) (by decide) (by decide))))
      have f70 := ((f56.other W60 (Or.inl nac)).other W65 (Or.inr (slot_ne (Or.inl (hw _ (List.mem_of_getElem? (i := 13) rfl))) (Or.inl (hw _ (List.mem_of_getElem? (i := 20) rfl))) (by decide) (t := (.array .long)) (t' := .int) (by decide) (by decide))))
      have f71 := ((V54.other W60 nec).other W65 (Ne.symm nae))
      have f72 := (V60.other W65 (Ne.symm nac))
      exact ⟨rfl, N65, f67, f68, f69, f70, Or.inr ⟨qe, x0, x1, qc, c0, c1, Fw65, f71, f72, by omega, by omega, by omega, by omega, by omega, by omega, fun s => by omega⟩⟩
  · have pre73 : ∀ t, Steps p.tables e below (T3.setTop (mkF m 13 #[.val (.ref oa), .val (.long qe), .second, .val (.long qc), .second, .unset] [(.int (-2 : Int32))])) t → Steps p.tables e below (s₁.setTop (entryFrame m #[(.ref oa), (.long qe), (.long qc)] 6)) t := pre4
    have hc17_74 : (-2 : Int) < (0 : Int) := by decide
    obtain ⟨T75, X75, e75, st75⟩ := getF X3 hx hZ hown (host := "") (Or.inl (hw _ (List.mem_of_getElem? (i := 19) rfl))) Via.refl e3 F2 (g := (mkF m 40 #[.val (.ref oa), .val (.long qe), .second, .val (.long qc), .second, .val (.int (1 : Int32))] [(.ref oa)])) rfl rfl (hb hby d3_40)
    obtain ⟨T76, X76, e76, st76⟩ := getF X75 hx hZ hown (host := "") (Or.inl (hw _ (List.mem_of_getElem? (i := 10) rfl))) Via.refl e75 F0 (g := (mkF m 44 #[.val (.ref oa), .val (.long qe), .second, .val (.long qc), .second, .val (.int (1 : Int32))] [(.ref oa), (.int (2 : Int32))])) rfl rfl (hb hby d3_44)
    obtain ⟨cl77, Ar77, q77, S77, M77, H77, G77⟩ := id V0
    have hc48_78 : ¬ ((2 : Int) = (16 : Int)) := by decide
    obtain ⟨T79, X79, e79, st79⟩ := getF X76 hx hZ hown (host := "") (Or.inl (hw _ (List.mem_of_getElem? (i := 10) rfl))) Via.refl e76 F0 (g := (mkF m 86 #[.val (.ref oa), .val (.long qe), .second, .val (.long qc), .second, .val (.int (1 : Int32))] [(.ref oa)])) rfl rfl (hb hby d3_86)
    obtain ⟨T80, X80, e80, st80⟩ := getF X79 hx hZ hown (host := "") (Or.inl (hw _ (List.mem_of_getElem? (i := 10) rfl))) Via.refl e79 F0 (g := (mkF m 92 #[.val (.ref oa), .val (.long qe), .second, .val (.long qc), .second, .val (.int (1 : Int32))] [(.ref oa), (.int (1 : Int32)), (.ref ea)])) rfl rfl (hb hby d3_92)
    obtain ⟨T81, X81, e81, st81⟩ := getF X80 hx hZ hown (host := "") (Or.inl (hw _ (List.mem_of_getElem? (i := 19) rfl))) Via.refl e80 F2 (g := (mkF m 100 #[.val (.ref oa), .val (.long qe), .second, .val (.long qc), .second, .val (.int (1 : Int32))] [(.ref oa), (.int (2 : Int32)), (.ref ea), (.int (1 : Int32)), (.ref ea)])) rfl rfl (hb hby d3_100)
    obtain ⟨T82, h82, L82, X82, e82, N82, K82, V82, st82⟩ := cpA X81 hx hZ hown (hw _ (List.mem_of_getElem? (i := 31) rfl)) (hw _ (List.mem_of_getElem? (i := 34) rfl)) (hw _ (List.mem_of_getElem? (i := 32) rfl)) (hw _ (List.mem_of_getElem? (i := 33) rfl)) e81 V0 V0 (Or.inl ⟨rfl, rfl⟩) (by decide : ¬ (1 : Int32) < 0) (by decide : ¬ (2 : Int32) < 0) (by decide : ¬ (1 : Int32) < 0) (by decide) (by decide) (us := [(.long x1)]) rfl (Nat.le_of_ble_eq_true rfl) N3 ge (g := (mkF m 106 #[.val (.ref oa), .val (.long qe), .second, .val (.long qc), .second, .val (.int (1 : Int32))] [(.int (1 : Int32)), (.int (2 : Int32)), (.ref ea), (.int (1 : Int32)), (.ref ea)])) rfl (by rw [hml]; rfl) (rest := []) rfl (hb hby d3_106) (by decide) (W := 0) (by show 2 * 0 + _ ≤ _; exact Nat.le_of_eq rfl) (by decide)
    have Zs83 : n0 ≤ h82.size := Nat.le_trans Z0 K82.1
    have Vc82 : Arv Z h82 ea kE .long (16 : Int32) [(.long x0), (.long x1), (.long x1), (.long (0 : Int64))] (.long (0 : Int64)) := V82
    have f84 := (F1.keep K82 (ninS nae nin0))
    obtain ⟨T85, X85, e85, st85⟩ := getF X82 hx hZ hown (host := "") (Or.inl (hw _ (List.mem_of_getElem? (i := 12) rfl))) Via.refl e82 f84 (g := (mkF m 110 #[.val (.ref oa), .val (.long qe), .second, .val (.long qc), .second, .val (.int (1 : Int32))] [(.ref oa)])) rfl rfl (hb hby d3_110)
    obtain ⟨T86, X86, e86, st86⟩ := getF X85 hx hZ hown (host := "") (Or.inl (hw _ (List.mem_of_getElem? (i := 12) rfl))) Via.refl e85 f84 (g := (mkF m 116 #[.val (.ref oa), .val (.long qe), .second, .val (.long qc), .second, .val (.int (1 : Int32))] [(.ref oa), (.int (1 : Int32)), (.ref ca)])) rfl rfl (hb hby d3_116)
    have f87 := (F2.keep K82 (ninS nae nin0))
    obtain ⟨T88, X88, e88, st88⟩ := getF X86 hx hZ hown (host := "") (Or.inl (hw _ (List.mem_of_getElem? (i := 19) rfl))) Via.refl e86 f87 (g := (mkF m 124 #[.val (.ref oa), .val (.long qe), .second, .val (.long qc), .second, .val (.int (1 : Int32))] [(.ref oa), (.int (2 : Int32)), (.ref ca), (.int (1 : Int32)), (.ref ca)])) rfl rfl (hb hby d3_124)
    have f89 := (V1.keep K82 (ninS (Ne.symm nec) nin0))
    obtain ⟨T90, h90, L90, X90, e90, N90, K90, V90, st90⟩ := cpA X88 hx hZ hown (hw _ (List.mem_of_getElem? (i := 31) rfl)) (hw _ (List.mem_of_getElem? (i := 34) rfl)) (hw _ (List.mem_of_getElem? (i := 32) rfl)) (hw _ (List.mem_of_getElem? (i := 33) rfl)) e88 f89 f89 (Or.inl ⟨rfl, rfl⟩) (by decide : ¬ (1 : Int32) < 0) (by decide : ¬ (2 : Int32) < 0) (by decide : ¬ (1 : Int32) < 0) (by decide) (by decide) (us := [(.long c1)]) rfl (Nat.le_of_ble_eq_true rfl) N82 gc (g := (mkF m 130 #[.val (.ref oa), .val (.long qe), .second, .val (.long qc), .second, .val (.int (1 : Int32))] [(.int (1 : Int32)), (.int (2 : Int32)), (.ref ca), (.int (1 : Int32)), (.ref ca)])) rfl (by rw [hml]; rfl) (rest := []) rfl (hb hby d3_130) (by decide) (W := 0) (by show 2 * 0 + _ ≤ _; exact Nat.le_of_eq rfl) (by decide)
    have Zs91 : n0 ≤ h90.size := Nat.le_trans Zs83 K90.1
    have Vc90 : Arv Z h90 ca kC .long (16 : Int32) [(.long c0), (.long c1), (.long c1), (.long (0 : Int64))] (.long (0 : Int64)) := V90
    have f92 := ((F0.keep K82 (ninS nae nin0)).keep K90 (ninS nac nin0))
    obtain ⟨T93, X93, e93, st93⟩ := getF X90 hx hZ hown (host := "") (Or.inl (hw _ (List.mem_of_getElem? (i := 10) rfl))) Via.refl e90 f92 (g := (mkF m 134 #[.val (.ref oa), .val (.long qe), .second, .val (.long qc), .second, .val (.int (1 : Int32))] [(.ref oa)])) rfl rfl (hb hby d3_134)
    have f94 := (Vc82.keep K90 (ninS nec nin0))
    obtain ⟨cl95, Ar95, q95, S95, M95, H95, G95⟩ := id f94
    have hin95 : ¬ ((1 : Int32) < 0 ∨ cl95.slots.size ≤ ((1 : Int32)).toNatClampNeg) := inb_of S95 ⟨by decide, by decide⟩
    obtain ⟨T96, h96, X96, e96, W96, st96⟩ := stJ X93 hx hZ e93 Ar95 (j := (1 : Int32)) hin95 (g := (mkF m 140 #[.val (.ref oa), .val (.long qe), .second, .val (.long qc), .second, .val (.int (1 : Int32))] [(.long qe), (.int (1 : Int32)), (.ref ea)])) rfl rfl (hb hby d3_140)
    have N96 := Fr.snoc X96 N90 ge
    have Zs97 : n0 ≤ h96.size := by rw [W96.size]; exact Zs91
    have V96 : Arv Z h96 ea kE .long (16 : Int32) [(.long x0), (.long qe), (.long x1), (.long (0 : Int64))] (.long (0 : Int64)) := Arv.set Ar95 q95 S95 M95 H95 G95 rfl W96 1 rfl (Nat.le_of_ble_eq_true rfl)
    have f98 := ((f84.keep K90 (ninS nac nin0)).other W96 (Or.inl nae))
    obtain ⟨T99, X99, e99, st99⟩ := getF X96 hx hZ hown (host := "") (Or.inl (hw _ (List.mem_of_getElem? (i := 12) rfl))) Via.refl e96 f98 (g := (mkF m 142 #[.val (.ref oa), .val (.long qe), .second, .val (.long qc), .second, .val (.int (1 : Int32))] [(.ref oa)])) rfl rfl (hb hby d3_142)
    have f100 := (Vc90.other W96 (Ne.symm nec))
    obtain ⟨cl101, Ar101, q101, S101, M101, H101, G101⟩ := id f100
    have hin101 : ¬ ((1 : Int32) < 0 ∨ cl101.slots.size ≤ ((1 : Int32)).toNatClampNeg) := inb_of S101 ⟨by decide, by decide⟩
    obtain ⟨T102, h102, X102, e102, W102, st102⟩ := stJ X99 hx hZ e99 Ar101 (j := (1 : Int32)) hin101 (g := (mkF m 148 #[.val (.ref oa), .val (.long qe), .second, .val (.long qc), .second, .val (.int (1 : Int32))] [(.long qc), (.int (1 : Int32)), (.ref ca)])) rfl rfl (hb hby d3_148)
    have N102 := Fr.snoc X102 N96 gc
    have Zs103 : n0 ≤ h102.size := by rw [W102.size]; exact Zs97
    have V102 : Arv Z h102 ca kC .long (16 : Int32) [(.long c0), (.long qc), (.long c1), (.long (0 : Int64))] (.long (0 : Int64)) := Arv.set Ar101 q101 S101 M101 H101 G101 rfl W102 1 rfl (Nat.le_of_ble_eq_true rfl)
    have f104 := (((f87.keep K90 (ninS nac nin0)).other W96 (Or.inl nae)).other W102 (Or.inl nac))
    obtain ⟨T105, X105, e105, st105⟩ := getF X102 hx hZ hown (host := "") (Or.inl (hw _ (List.mem_of_getElem? (i := 19) rfl))) Via.refl e102 f104 (g := (mkF m 151 #[.val (.ref oa), .val (.long qe), .second, .val (.long qc), .second, .val (.int (1 : Int32))] [(.ref oa), (.ref oa)])) rfl rfl (hb hby d3_151)
    have f106 := ((((Ea.keep K82).keep K90).wr W96).wr W102)
    obtain ⟨T107, h107, X107, e107, W107, st107⟩ := putF X105 hx hZ hown (host := "") (Or.inl (hw _ (List.mem_of_getElem? (i := 19) rfl))) Via.refl e105 f104 f106 (Or.inl (hw _ (List.mem_of_getElem? (i := 20) rfl))) (hw _ (List.mem_of_getElem? (i := 1) rfl)) (ty := .int) (by decide) rfl rfl (g := (mkF m 156 #[.val (.ref oa), .val (.long qe), .second, .val (.long qc), .second, .val (.int (1 : Int32))] [(.int (3 : Int32)), (.ref oa)])) rfl rfl (hb hby d3_156)
    have N107 := Fr.snoc X107 N102 ga
    have Zs108 : n0 ≤ h107.size := by rw [W107.size]; exact Zs103
    have Fw107 := f104.same W107
    obtain ⟨fs, hr, hrun, hended, hW, hsame⟩ := X107.leave (v := none) (fun _ => rfl)
    refine ⟨_, _, pre73 _ ?_, hrun, hended, _, _, rfl, ?_, ⟨_, rfl⟩, hW, hsame.mono (by decide) (by decide)⟩
    · refine XS.istore X3.here hx rfl (hb hby d3_13) rfl (l' := #[.val (.ref oa), .val (.long qe), .second, .val (.long qc), .second, .val (.int (-2 : Int32))]) rfl ?_
      refine XS.iload X3.here hx rfl (hb hby d3_15) rfl ?_
      show Steps p.tables e below (T3.setTop (mkF m 17 #[.val (.ref oa), .val (.long qe), .second, .val (.long qc), .second, .val (.int (-2 : Int32))] [(.int (-2 : Int32))])) _
      refine XS.ifYes X3.here hx rfl (pc0 := 17) (pc' := 32) rfl (hb hby d3_17) rfl (own_if (own_tlt (a := (-2 : Int32)) (b := (0 : Int32)) (by decide) (by decide) hc17_74).1) (by decide) (by decide) ?_
      refine XS.iload X3.here hx rfl (hb hby d3_32) rfl ?_
      refine XS.ineg X3.here hx rfl (hb hby d3_34) rfl ?_
      refine XS.iconst X3.here hx rfl (hb hby d3_35) ?_
      refine XS.isub X3.here hx rfl (hb hby d3_36) rfl ?_
      show Steps p.tables e below (T3.setTop (mkF m 37 #[.val (.ref oa), .val (.long qe), .second, .val (.long qc), .second, .val (.int (-2 : Int32))] [(.int (1 : Int32))])) _
      refine XS.istore X3.here hx rfl (hb hby d3_37) rfl (l' := #[.val (.ref oa), .val (.long qe), .second, .val (.long qc), .second, .val (.int (1 : Int32))]) rfl ?_
      refine XS.aloadN X3.here hx rfl (hb hby d3_39) rfl rfl ?_
      refine st75 _ ?_
      refine XS.aloadN X75.here hx rfl (hb hby d3_43) rfl rfl ?_
      refine st76 _ ?_
      show Steps p.tables e below (T76.setTop (mkF m 47 #[.val (.ref oa), .val (.long qe), .second, .val (.long qc), .second, .val (.int (1 : Int32))] [(.ref ea), (.int (2 : Int32))])) _
      refine X76.arraylength hx (by rw [e76]; exact Ar77.1) (State.isArrayOf_alike hZ.alike Ar77.2.1) (g := (mkF m 47 #[.val (.ref oa), .val (.long qe), .second, .val (.long qc), .second, .val (.int (1 : Int32))] [(.ref ea), (.int (2 : Int32))])) rfl rfl (hb hby d3_47) _ ?_
      rw [len_of S77 M77]
      refine XS.icmpYes X76.here hx rfl (pc0 := 48) (pc' := 85) rfl (hb hby d3_48) rfl (own_feq (a := (2 : Int32)) (b := (16 : Int32)) (by decide) (by decide) hc48_78).2 (by decide) (by decide) ?_
      refine XS.aloadN X76.here hx rfl (hb hby d3_85) rfl rfl ?_
      refine st79 _ ?_
      refine XS.iload X79.here hx rfl (hb hby d3_89) rfl ?_
      show Steps p.tables e below (T79.setTop (mkF m 91 #[.val (.ref oa), .val (.long qe), .second, .val (.long qc), .second, .val (.int (1 : Int32))] [(.int (1 : Int32)), (.ref ea)])) _
      refine XS.aloadN X79.here hx rfl (hb hby d3_91) rfl rfl ?_
      refine st80 _ ?_
      refine XS.iload X80.here hx rfl (hb hby d3_95) rfl ?_
      refine XS.iconst X80.here hx rfl (hb hby d3_97) ?_
      refine XS.iadd X80.here hx rfl (hb hby d3_98) rfl ?_
      show Steps p.tables e below (T80.setTop (mkF m 99 #[.val (.ref oa), .val (.long qe), .second, .val (.long qc), .second, .val (.int (1 : Int32))] [(.int (2 : Int32)), (.ref ea), (.int (1 : Int32)), (.ref ea)])) _
      refine XS.aloadN X80.here hx rfl (hb hby d3_99) rfl rfl ?_
      refine st81 _ ?_
      refine XS.iload X81.here hx rfl (hb hby d3_103) rfl ?_
      refine XS.isub X81.here hx rfl (hb hby d3_105) rfl ?_
      refine st82 _ ?_
      show Steps p.tables e below (T82.setTop (mkF m 109 #[.val (.ref oa), .val (.long qe), .second, .val (.long qc), .second, .val (.int (1 : Int32))] [])) _
      refine XS.aloadN X82.here hx rfl (hb hby d3_109) rfl rfl ?_
      refine st85 _ ?_
      refine XS.iload X85.here hx rfl (hb hby d3_113) rfl ?_
      refine XS.aloadN X85.here hx rfl (hb hby d3_115) rfl rfl ?_
      refine st86 _ ?_
      show Steps p.tables e below (T86.setTop (mkF m 119 #[.val (.ref oa), .val (.long qe), .second, .val (.long qc), .second, .val (.int (1 : Int32))] [(.ref ca), (.int (1 : Int32)), (.ref ca)])) _
      refine XS.iload X86.here hx rfl (hb hby d3_119) rfl ?_
      refine XS.iconst X86.here hx rfl (hb hby d3_121) ?_
      refine XS.iadd X86.here hx rfl (hb hby d3_122) rfl ?_
      refine XS.aloadN X86.here hx rfl (hb hby d3_123) rfl rfl ?_
      refine st88 _ ?_
      show Steps p.tables e below (T88.setTop (mkF m 127 #[.val (.ref oa), .val (.long qe), .second, .val (.long qc), .second, .val (.int (1 : Int32))] [(.int (2 : Int32)), (.int (2 : Int32)), (.ref ca), (.int (1 : Int32)), (.ref ca)])) _
      refine XS.iload X88.here hx rfl (hb hby d3_127) rfl ?_
      refine XS.isub X88.here hx rfl (hb hby d3_129) rfl ?_
      refine st90 _ ?_
      refine XS.aloadN X90.here hx rfl (hb hby d3_133) rfl rfl ?_
      refine st93 _ ?_
      show Steps p.tables e below (T93.setTop (mkF m 137 #[.val (.ref oa), .val (.long qe), .second, .val (.long qc), .second, .val (.int (1 : Int32))] [(.ref ea)])) _
      refine XS.iload X93.here hx rfl (hb hby d3_137) rfl ?_
      refine XS.lloadN X93.here hx rfl (hb hby d3_139) rfl ?_
      refine st96 _ ?_
      refine XS.aloadN X96.here hx rfl (hb hby d3_141) rfl rfl ?_
      refine st99 _ ?_
      show Steps p.tables e below (T99.setTop (mkF m 145 #[.val (.ref oa), .val (.long qe), .second, .val (.long qc), .second, .val (.int (1 : Int32))] [(.ref ca)])) _
      refine XS.iload X99.here hx rfl (hb hby d3_145) rfl ?_
      refine XS.lloadN X99.here hx rfl (hb hby d3_147) rfl ?_
      refine st102 _ ?_
      refine XS.aloadN X102.here hx rfl (hb hby d3_149) rfl rfl ?_
      refine XS.dup X102.here hx rfl (hb hby d3_150) rfl rfl ?_
      show Steps p.tables e below (T102.setTop (mkF m 151 #[.val (.ref oa), .val (.long qe), .second, .val (.long qc), .second, .val (.int (1 : Int32))] [(.ref oa), (.ref oa)])) _
      refine st105 _ ?_
      refine XS.iconst X105.here hx rfl (hb hby d3_154) ?_
      refine XS.iadd X105.here hx rfl (hb hby d3_155) rfl ?_
      refine st107 _ ?_
      exact X107.returnOut hx Bd.returns (hb hby d3_159) hr
    · show Q_add2 Z oa qe qc ea ca kE kC x0 x1 c0 c1 h0 n0 _ T107.heap _
      rw [e107]
      have f109 := ((((((Keep.refl h0 [oa, ea, ca]).trans K82 (allS (P := fun x => x ∈ [oa, ea, ca] ∨ h0.size ≤ x) (Or.inl (List.mem_of_getElem? (i := 1) rfl)) all0)).trans K90 (allS (P := fun x => x ∈ [oa, ea, ca] ∨ h0.size ≤ x) (Or.inl (List.mem_of_getElem? (i := 2) rfl)) all0)).wr W96 (Or.inl (List.mem_of_getElem? (i := 1) rfl))).wr W102 (Or.inl (List.mem_of_getElem? (i := 2) rfl))).wr W107 (Or.inl (List.mem_of_getElem? (i := 0) rfl)))
      have f110 := (f106.wr W107)
      have f111 := (((f92.other W96 (Or.inl nae)).other W102 (Or.inl nac)).other W107 (Or.inr (slot_ne (Or.inl (hw _ (List.mem_of_getElem? (i := 11) rfl))) (Or.inl (hw _ (List.mem_of_getElem? (i := 20) rfl))) (by decide) (t := (.array .long)) (t' := .int) (by decide) (by decide))))
      have f112 := ((f98.other W102 (Or.inl nac)).other W107 (Or.inr (slot_ne (Or.inl (hw _ (List.mem_of_getElem? (i := 13) rfl))) (Or.inl (hw _ (List.mem_of_getElem? (i := 20) rfl))) (by decide) (t := (.array .long)) (t' := .int) (by decide) (by decide))))
      have f113 := ((V96.other W102 nec).other W107 (Ne.symm nae))
      have f114 := (V102.other W107 (Ne.symm nac))
      exact ⟨rfl, N107, f109, f110, f111, f112, Or.inr ⟨x0, qe, x1, c0, qc, c1, Fw107, f113, f114, by omega, by omega, by omega, by omega, by omega, by omega, fun s => by omega⟩⟩
  · have pre115 : ∀ t, Steps p.tables e below (T3.setTop (mkF m 13 #[.val (.ref oa), .val (.long qe), .second, .val (.long qc), .second, .unset] [(.int (-3 : Int32))])) t → Steps p.tables e below (s₁.setTop (entryFrame m #[(.ref oa), (.long qe), (.long qc)] 6)) t := pre4
    have hc17_116 : (-3 : Int) < (0 : Int) := by decide
    obtain ⟨T117, X117, e117, st117⟩ := getF X3 hx hZ hown (host := "") (Or.inl (hw _ (List.mem_of_getElem? (i := 19) rfl))) Via.refl e3 F2 (g := (mkF m 40 #[.val (.ref oa), .val (.long qe), .second, .val (.long qc), .second, .val (.int (2 : Int32))] [(.ref oa)])) rfl rfl (hb hby d3_40)
    obtain ⟨T118, X118, e118, st118⟩ := getF X117 hx hZ hown (host := "") (Or.inl (hw _ (List.mem_of_getElem? (i := 10) rfl))) Via.refl e117 F0 (g := (mkF m 44 #[.val (.ref oa), .val (.long qe), .second, .val (.long qc), .second, .val (.int (2 : Int32))] [(.ref oa), (.int (2 : Int32))])) rfl rfl (hb hby d3_44)
    obtain ⟨cl119, Ar119, q119, S119, M119, H119, G119⟩ := id V0
    have hc48_120 : ¬ ((2 : Int) = (16 : Int)) := by decide
    obtain ⟨T121, X121, e121, st121⟩ := getF X118 hx hZ hown (host := "") (Or.inl (hw _ (List.mem_of_getElem? (i := 10) rfl))) Via.refl e118 F0 (g := (mkF m 86 #[.val (.ref oa), .val (.long qe), .second, .val (.long qc), .second, .val (.int (2 : Int32))] [(.ref oa)])) rfl rfl (hb hby d3_86)
    obtain ⟨T122, X122, e122, st122⟩ := getF X121 hx hZ hown (host := "") (Or.inl (hw _ (List.mem_of_getElem? (i := 10) rfl))) Via.refl e121 F0 (g := (mkF m 92 #[.val (.ref oa), .val (.long qe), .second, .val (.long qc), .second, .val (.int (2 : Int32))] [(.ref oa), (.int (2 : Int32)), (.ref ea)])) rfl rfl (hb hby d3_92)
    obtain ⟨T123, X123, e123, st123⟩ := getF X122 hx hZ hown (host := "") (Or.inl (hw _ (List.mem_of_getElem? (i := 19) rfl))) Via.refl e122 F2 (g := (mkF m 100 #[.val (.ref oa), .val (.long qe), .second, .val (.long qc), .second, .val (.int (2 : Int32))] [(.ref oa), (.int (3 : Int32)), (.ref ea), (.int (2 : Int32)), (.ref ea)])) rfl rfl (hb hby d3_100)
    obtain ⟨T124, h124, L124, X124, e124, N124, K124, V124, st124⟩ := cpA X123 hx hZ hown (hw _ (List.mem_of_getElem? (i := 31) rfl)) (hw _ (List.mem_of_getElem? (i := 34) rfl)) (hw _ (List.mem_of_getElem? (i := 32) rfl)) (hw _ (List.mem_of_getElem? (i := 33) rfl)) e123 V0 V0 (Or.inl ⟨rfl, rfl⟩) (by decide : ¬ (2 : Int32) < 0) (by decide : ¬ (3 : Int32) < 0) (by decide : ¬ (0 : Int32) < 0) (by decide) (by decide) (us := []) rfl (Nat.le_of_ble_eq_true rfl) N3 ge (g := (mkF m 106 #[.val (.ref oa), .val (.long qe), .second, .val (.long qc), .second, .val (.int (2 : Int32))] [(.int (0 : Int32)), (.int (3 : Int32)), (.ref ea), (.int (2 : Int32)), (.ref ea)])) rfl (by rw [hml]; rfl) (rest := []) rfl (hb hby d3_106) (by decide) (W := 0) (by show 2 * 0 + _ ≤ _; exact Nat.le_of_eq rfl) (by decide)
    have Zs125 : n0 ≤ h124.size := Nat.le_trans Z0 K124.1
    have Vc124 : Arv Z h124 ea kE .long (16 : Int32) [(.long x0), (.long x1), (.long (0 : Int64)), (.long (0 : Int64))] (.long (0 : Int64)) := V124
    have f126 := (F1.keep K124 (ninS nae nin0))
    obtain ⟨T127, X127, e127, st127⟩ := getF X124 hx hZ hown (host := "") (Or.inl (hw _ (List.mem_of_getElem? (i := 12) rfl))) Via.refl e124 f126 (g := (mkF m 110 #[.val (.ref oa), .val (.long qe), .second, .val (.long qc), .second, .val (.int (2 : Int32))] [(.ref oa)])) rfl rfl (hb hby d3_110)
    obtain ⟨T128, X128, e128, st128⟩ := getF X127 hx hZ hown (host := "") (Or.inl (hw _ (List.mem_of_getElem? (i := 12) rfl))) Via.refl e127 f126 (g := (mkF m 116 #[.val (.ref oa), .val (.long qe), .second, .val (.long qc), .second, .val (.int (2 : Int32))] [(.ref oa), (.int (2 : Int32)), (.ref ca)])) rfl rfl (hb hby d3_116)
    have f129 := (F2.keep K124 (ninS nae nin0))
    obtain ⟨T130, X130, e130, st130⟩ := getF X128 hx hZ hown (host := "") (Or.inl (hw _ (List.mem_of_getElem? (i := 19) rfl))) Via.refl e128 f129 (g := (mkF m 124 #[.val (.ref oa), .val (.long qe), .second, .val (.long qc), .second, .val (.int (2 : Int32))] [(.ref oa), (.int (3 : Int32)), (.ref ca), (.int (2 : Int32)), (.ref ca)])) rfl rfl (hb hby d3_124)
    have f131 := (V1.keep K124 (ninS (Ne.symm nec) nin0))
    obtain ⟨T132, h132, L132, X132, e132, N132, K132, V132, st132⟩ := cpA X130 hx hZ hown (hw _ (List.mem_of_getElem? (i := 31) rfl)) (hw _ (List.mem_of_getElem? (i := 34) rfl)) (hw _ (List.mem_of_getElem? (i := 32) rfl)) (hw _ (List.mem_of_getElem? (i := 33) rfl)) e130 f131 f131 (Or.inl ⟨rfl, rfl⟩) (by decide : ¬ (2 : Int32) < 0) (by decide : ¬ (3 : Int32) < 0) (by decide : ¬ (0 : Int32) < 0) (by decide) (by decide) (us := []) rfl (Nat.le_of_ble_eq_true rfl) N124 gc (g := (mkF m 130 #[.val (.ref oa), .val (.long qe), .second, .val (.long qc), .second, .val (.int (2 : Int32))] [(.int (0 : Int32)), (.int (3 : Int32)), (.ref ca), (.int (2 : Int32)), (.ref ca)])) rfl (by rw [hml]; rfl) (rest := []) rfl (hb hby d3_130) (by decide) (W := 0) (by show 2 * 0 + _ ≤ _; exact Nat.le_of_eq rfl) (by decide)
    have Zs133 : n0 ≤ h132.size := Nat.le_trans Zs125 K132.1
    have Vc132 : Arv Z h132 ca kC .long (16 : Int32) [(.long c0), (.long c1), (.long (0 : Int64)), (.long (0 : Int64))] (.long (0 : Int64)) := V132
    have f134 := ((F0.keep K124 (ninS nae nin0)).keep K132 (ninS nac nin0))
    obtain ⟨T135, X135, e135, st135⟩ := getF X132 hx hZ hown (host := "") (Or.inl (hw _ (List.mem_of_getElem? (i := 10) rfl))) Via.refl e132 f134 (g := (mkF m 134 #[.val (.ref oa), .val (.long qe), .second, .val (.long qc), .second, .val (.int (2 : Int32))] [(.ref oa)])) rfl rfl (hb hby d3_134)
    have f136 := (Vc124.keep K132 (ninS nec nin0))
    obtain ⟨cl137, Ar137, q137, S137, M137, H137, G137⟩ := id f136
    have hin137 : ¬ ((2 : Int32) < 0 ∨ cl137.slots.size ≤ ((2 : Int32)).toNatClampNeg) := inb_of S137 ⟨by decide, by decide⟩
    obtain ⟨T138, h138, X138, e138, W138, st138⟩ := stJ X135 hx hZ e135 Ar137 (j := (2 : Int32)) hin137 (g := (mkF m 140 #[.val (.ref oa), .val (.long qe), .second, .val (.long qc), .second, .val (.int (2 : Int32))] [(.long qe), (.int (2 : Int32)), (.ref ea)])) rfl rfl (hb hby d3_140)
    have N138 := Fr.snoc X138 N132 ge
    have Zs139 : n0 ≤ h138.size := by rw [W138.size]; exact Zs133
    have V138 : Arv Z h138 ea kE .long (16 : Int32) [(.long x0), (.long x1), (.long qe), (.long (0 : Int64))] (.long (0 : Int64)) := Arv.set Ar137 q137 S137 M137 H137 G137 rfl W138 2 rfl (Nat.le_of_ble_eq_true rfl)
    have f140 := ((f126.keep K132 (ninS nac nin0)).other W138 (Or.inl nae))
    obtain ⟨T141, X141, e141, st141⟩ := getF X138 hx hZ hown (host := "") (Or.inl (hw _ (List.mem_of_getElem? (i := 12) rfl))) Via.refl e138 f140 (g := (mkF m 142 #[.val (.ref oa), .val (.long qe), .second, .val (.long qc), .second, .val (.int (2 : Int32))] [(.ref oa)])) rfl rfl (hb hby d3_142)
    have f142 := (Vc132.other W138 (Ne.symm nec))
    obtain ⟨cl143, Ar143, q143, S143, M143, H143, G143⟩ := id f142
    have hin143 : ¬ ((2 : Int32) < 0 ∨ cl143.slots.size ≤ ((2 : Int32)).toNatClampNeg) := inb_of S143 ⟨by decide, by decide⟩
    obtain ⟨T144, h144, X144, e144, W144, st144⟩ := stJ X141 hx hZ e141 Ar143 (j := (2 : Int32)) hin143 (g := (mkF m 148 #[.val (.ref oa), .val (.long qe), .second, .val (.long qc), .second, .val (.int (2 : Int32))] [(.long qc), (.int (2 : Int32)), (.ref ca)])) rfl rfl (hb hby d3_148)
    have N144 := Fr.snoc X144 N138 gc
    have Zs145 : n0 ≤ h144.size := by rw [W144.size]; exact Zs139
    have V144 : Arv Z h144 ca kC .long (16 : Int32) [(.long c0), (.long c1), (.long qc), (.long (0 : Int64))] (.long (0 : Int64)) := Arv.set Ar143 q143 S143 M143 H143 G143 rfl W144 2 rfl (Nat.le_of_ble_eq_true rfl)
    have f146 := (((f129.keep K132 (ninS nac nin0)).other W138 (Or.inl nae)).other W144 (Or.inl nac))
    obtain ⟨T147, X147, e147, st147⟩ := getF X144 hx hZ hown (host := "") (Or.inl (hw _ (List.mem_of_getElem? (i := 19) rfl))) Via.refl e144 f146 (g := (mkF m 151 #[.val (.ref oa), .val (.long qe), .second, .val (.long qc), .second, .val (.int (2 : Int32))] [(.ref oa), (.ref oa)])) rfl rfl (hb hby d3_151)
    have f148 := ((((Ea.keep K124).keep K132).wr W138).wr W144)
    obtain ⟨T149, h149, X149, e149, W149, st149⟩ := putF X147 hx hZ hown (host := "") (Or.inl (hw _ (List.mem_of_getElem? (i := 19) rfl))) Via.refl e147 f146 f148 (Or.inl (hw _ (List.mem_of_getElem? (i := 20) rfl))) (hw _ (List.mem_of_getElem? (i := 1) rfl)) (ty := .int) (by decide) rfl rfl (g := (mkF m 156 #[.val (.ref oa), .val (.long qe), .second, .val (.long qc), .second, .val (.int (2 : Int32))] [(.int (3 : Int32)), (.ref oa)])) rfl rfl (hb hby d3_156)
    have N149 := Fr.snoc X149 N144 ga
    have Zs150 : n0 ≤ h149.size := by rw [W149.size]; exact Zs145
    have Fw149 := f146.same W149
    obtain ⟨fs, hr, hrun, hended, hW, hsame⟩ := X149.leave (v := none) (fun _ => rfl)
    refine ⟨_, _, pre115 _ ?_, hrun, hended, _, _, rfl, ?_, ⟨_, rfl⟩, hW, hsame.mono (by decide) (by decide)⟩
    · refine XS.istore X3.here hx rfl (hb hby d3_13) rfl (l' := #[.val (.ref oa), .val (.long qe), .second, .val (.long qc), .second, .val (.int (-3 : Int32))]) rfl ?_
      refine XS.iload X3.here hx rfl (hb hby d3_15) rfl ?_
      show Steps p.tables e below (T3.setTop (mkF m 17 #[.val (.ref oa), .val (.long qe), .second, .val (.long qc), .second, .val (.int (-3 : Int32))] [(.int (-3 : Int32))])) _
      refine XS.ifYes X3.here hx rfl (pc0 := 17) (pc' := 32) rfl (hb hby d3_17) rfl (own_if (own_tlt (a := (-3 : Int32)) (b := (0 : Int32)) (by decide) (by decide) hc17_116).1) (by decide) (by decide) ?_
      refine XS.iload X3.here hx rfl (hb hby d3_32) rfl ?_
      refine XS.ineg X3.here hx rfl (hb hby d3_34) rfl ?_
      refine XS.iconst X3.here hx rfl (hb hby d3_35) ?_
      refine XS.isub X3.here hx rfl (hb hby d3_36) rfl ?_
      show Steps p.tables e below (T3.setTop (mkF m 37 #[.val (.ref oa), .val (.long qe), .second, .val (.long qc), .second, .val (.int (-3 : Int32))] [(.int (2 : Int32))])) _
      refine XS.istore X3.here hx rfl (hb hby d3_37) rfl (l' := #[.val (.ref oa), .val (.long qe), .second, .val (.long qc), .second, .val (.int (2 : Int32))]) rfl ?_
      refine XS.aloadN X3.here hx rfl (hb hby d3_39) rfl rfl ?_
      refine st117 _ ?_
      refine XS.aloadN X117.here hx rfl (hb hby d3_43) rfl rfl ?_
      refine st118 _ ?_
      show Steps p.tables e below (T118.setTop (mkF m 47 #[.val (.ref oa), .val (.long qe), .second, .val (.long qc), .second, .val (.int (2 : Int32))] [(.ref ea), (.int (2 : Int32))])) _
      refine X118.arraylength hx (by rw [e118]; exact Ar119.1) (State.isArrayOf_alike hZ.alike Ar119.2.1) (g := (mkF m 47 #[.val (.ref oa), .val (.long qe), .second, .val (.long qc), .second, .val (.int (2 : Int32))] [(.ref ea), (.int (2 : Int32))])) rfl rfl (hb hby d3_47) _ ?_
      rw [len_of S119 M119]
      refine XS.icmpYes X118.here hx rfl (pc0 := 48) (pc' := 85) rfl (hb hby d3_48) rfl (own_feq (a := (2 : Int32)) (b := (16 : Int32)) (by decide) (by decide) hc48_120).2 (by decide) (by decide) ?_
      refine XS.aloadN X118.here hx rfl (hb hby d3_85) rfl rfl ?_
      refine st121 _ ?_
      refine XS.iload X121.here hx rfl (hb hby d3_89) rfl ?_
      show Steps p.tables e below (T121.setTop (mkF m 91 #[.val (.ref oa), .val (.long qe), .second, .val (.long qc), .second, .val (.int (2 : Int32))] [(.int (2 : Int32)), (.ref ea)])) _
      refine XS.aloadN X121.here hx rfl (hb hby d3_91) rfl rfl ?_
      refine st122 _ ?_
      refine XS.iload X122.here hx rfl (hb hby d3_95) rfl ?_
      refine XS.iconst X122.here hx rfl (hb hby d3_97) ?_
      refine XS.iadd X122.here hx rfl (hb hby d3_98) rfl ?_
      show Steps p.tables e below (T122.setTop (mkF m 99 #[.val (.ref oa), .val (.long qe), .second, .val (.long qc), .second, .val (.int (2 : Int32))] [(.int (3 : Int32)), (.ref ea), (.int (2 : Int32)), (.ref ea)])) _
      refine XS.aloadN X122.here hx rfl (hb hby d3_99) rfl rfl ?_
      refine st123 _ ?_
      refine XS.iload X123.here hx rfl (hb hby d3_103) rfl ?_
      refine XS.isub X123.here hx rfl (hb hby d3_105) rfl ?_
      refine st124 _ ?_
      show Steps p.tables e below (T124.setTop (mkF m 109 #[.val (.ref oa), .val (.long qe), .second, .val (.long qc), .second, .val (.int (2 : Int32))] [])) _
      refine XS.aloadN X124.here hx rfl (hb hby d3_109) rfl rfl ?_
      refine st127 _ ?_
      refine XS.iload X127.here hx rfl (hb hby d3_113) rfl ?_
      refine XS.aloadN X127.here hx rfl (hb hby d3_115) rfl rfl ?_
      refine st128 _ ?_
      show Steps p.tables e below (T128.setTop (mkF m 119 #[.val (.ref oa), .val (.long qe), .second, .val (.long qc), .second, .val (.int (2 : Int32))] [(.ref ca), (.int (2 : Int32)), (.ref ca)])) _
      refine XS.iload X128.here hx rfl (hb hby d3_119) rfl ?_
      refine XS.iconst X128.here hx rfl (hb hby d3_121) ?_
      refine XS.iadd X128.here hx rfl (hb hby d3_122) rfl ?_
      refine XS.aloadN X128.here hx rfl (hb hby d3_123) rfl rfl ?_
      refine st130 _ ?_
      show Steps p.tables e below (T130.setTop (mkF m 127 #[.val (.ref oa), .val (.long qe), .second, .val (.long qc), .second, .val (.int (2 : Int32))] [(.int (2 : Int32)), (.int (3 : Int32)), (.ref ca), (.int (2 : Int32)), (.ref ca)])) _
      refine XS.iload X130.here hx rfl (hb hby d3_127) rfl ?_
      refine XS.isub X130.here hx rfl (hb hby d3_129) rfl ?_
      refine st132 _ ?_
      refine XS.aloadN X132.here hx rfl (hb hby d3_133) rfl rfl ?_
      refine st135 _ ?_
      show Steps p.tables e below (T135.setTop (mkF m 137 #[.val (.ref oa), .val (.long qe), .second, .val (.long qc), .second, .val (.int (2 : Int32))] [(.ref ea)])) _
      refine XS.iload X135.here hx rfl (hb hby d3_137) rfl ?_
      refine XS.lloadN X135.here hx rfl (hb hby d3_139) rfl ?_
      refine st138 _ ?_
      refine XS.aloadN X138.here hx rfl (hb hby d3_141) rfl rfl ?_
      refine st141 _ ?_
      show Steps p.tables e below (T141.setTop (mkF m 145 #[.val (.ref oa), .val (.long qe), .second, .val (.long qc), .second, .val (.int (2 : Int32))] [(.ref ca)])) _
      refine XS.iload X141.here hx rfl (hb hby d3_145) rfl ?_
      refine XS.lloadN X141.here hx rfl (hb hby d3_147) rfl ?_
      refine st144 _ ?_
      refine XS.aloadN X144.here hx rfl (hb hby d3_149) rfl rfl ?_
      refine XS.dup X144.here hx rfl (hb hby d3_150) rfl rfl ?_
      show Steps p.tables e below (T144.setTop (mkF m 151 #[.val (.ref oa), .val (.long qe), .second, .val (.long qc), .second, .val (.int (2 : Int32))] [(.ref oa), (.ref oa)])) _
      refine st147 _ ?_
      refine XS.iconst X147.here hx rfl (hb hby d3_154) ?_
      refine XS.iadd X147.here hx rfl (hb hby d3_155) rfl ?_
      refine st149 _ ?_
      exact X149.returnOut hx Bd.returns (hb hby d3_159) hr
    · show Q_add2 Z oa qe qc ea ca kE kC x0 x1 c0 c1 h0 n0 _ T149.heap _
      rw [e149]
      have f151 := ((((((Keep.refl h0 [oa, ea, ca]).trans K124 (allS (P := fun x => x ∈ [oa, ea, ca] ∨ h0.size ≤ x) (Or.inl (List.mem_of_getElem? (i := 1) rfl)) all0)).trans K132 (allS (P := fun x => x ∈ [oa, ea, ca] ∨ h0.size ≤ x) (Or.inl (List.mem_of_getElem? (i := 2) rfl)) all0)).wr W138 (Or.inl (List.mem_of_getElem? (i := 1) rfl))).wr W144 (Or.inl (List.mem_of_getElem? (i := 2) rfl))).wr W149 (Or.inl (List.mem_of_getElem? (i := 0) rfl)))
      have f152 := (f148.wr W149)
      have f153 := (((f134.other W138 (Or.inl nae)).other W144 (Or.inl nac)).other W149 (Or.inr (slot_ne (Or.inl (hw _ (List.mem_of_getElem? (i := 11) rfl))) (Or.inl (hw _ (List.mem_of_getElem? (i := 20) rfl))) (by decide) (t := (.array .long)) (t' := .int) (by decide) (by decide))))
      have f154 := ((f140.other W144 (Or.inl nac)).other W149 (Or.inr (slot_ne (Or.inl (hw _ (List.mem_of_getElem? (i := 13) rfl))) (Or.inl (hw _ (List.mem_of_getElem? (i := 20) rfl))) (by decide) (t := (.array .long)) (t' := .int) (by decide) (by decide))))
      have f155 := ((V138.other W144 nec).other W149 (Ne.symm nae))
      have f156 := (V144.other W149 (Ne.symm nac))
      exact ⟨rfl, N149, f151, f152, f153, f154, Or.inr ⟨x0, x1, qe, c0, c1, qc, Fw149, f155, f156, by omega, by omega, by omega, by omega, by omega, by omega, fun s => by omega⟩⟩
theorem d10_0 : decode prog_20_method_4_code 0 = .ok (.lconst 0, 1) := by decide +kernel
theorem d10_1 : decode prog_20_method_4_code 1 = .ok (.lstore_n 3, 1) := by decide +kernel
theorem d10_2 : decode prog_20_method_4_code 2 = .ok (.iconst 0, 1) := by decide +kernel
theorem d10_3 : decode prog_20_method_4_code 3 = .ok (.istore 5, 2) := by decide +kernel
theorem d10_5 : decode prog_20_method_4_code 5 = .ok (.iload 5, 2) := by decide +kernel
theorem d10_7 : decode prog_20_method_4_code 7 = .ok (.aload_n 0, 1) := by decide +kernel
theorem d10_8 : decode prog_20_method_4_code 8 = .ok (.getfield 16, 3) := by decide +kernel
theorem d10_11 : decode prog_20_method_4_code 11 = .ok (.if_icmp .ge 31, 3) := by decide +kernel
theorem d10_42 : decode prog_20_method_4_code 42 = .ok (.lload_n 3, 1) := by decide +kernel
theorem d10_43 : decode prog_20_method_4_code 43 = .ok (.lreturn, 1) := by decide +kernel
theorem ef_rm_h0 (m : MethodId) (x0 : Addr) (x1 : Int64) : entryFrame m #[(.ref x0), (.long x1)] 6 = mkF m 0 #[.val (.ref x0), .val (.long x1), .second, .unset, .unset, .unset] [] := by first | (simp [entryFrame, mkF, argsToLocals, Value.category]; done) | rfl
def Q_h0 (Z : State) (oa : Addr) (qs : Int64) (ea : Addr) (ca : Addr) (kE : ClassId) (kC : ClassId) (h0 : Heap) (n0 : Nat) (v : Option Value) (h : Heap) (L : List Loc) : Prop := ∃ z : Int64, v = some (.long z) ∧ (z.toInt = 0) ∧ Fr n0 L ∧ h = h0
set_option maxRecDepth 65536 in
set_option maxHeartbeats 40000000 in
theorem rm_h0 (l : Launch) (Z : State) (a0 : Array Value) (hw : ∀ d ∈ tables_1, d.before a0 Z = true) (ws : List Jvm.Cond) (oa : Addr) (qs : Int64) (ea : Addr) (ca : Addr) (kE : ClassId) (kC : ClassId) (h0 : Heap) (n0 : Nat) (Z0 : n0 ≤ h0.size) (Ea : Exa Z h0 oa "com/example/foreslot/foreslot/CountsByEnd") (F0 : Fld Z h0 oa "com/example/foreslot/foreslot/CountsByEnd" "ends" "[J" (.ref ea)) (F1 : Fld Z h0 oa "com/example/foreslot/foreslot/CountsByEnd" "counts" "[J" (.ref ca)) (F2 : Fld Z h0 oa "com/example/foreslot/foreslot/CountsByEnd" "size" "I" (.int (0 : Int32))) (V0 : Arv Z h0 ea kE .long (16 : Int32) [(.long (0 : Int64)), (.long (0 : Int64)), (.long (0 : Int64)), (.long (0 : Int64))] (.long (0 : Int64))) (V1 : Arv Z h0 ca kC .long (16 : Int32) [(.long (0 : Int64)), (.long (0 : Int64)), (.long (0 : Int64)), (.long (0 : Int64))] (.long (0 : Int64))) (kt : 0 ≤ 100000) :
    MetFree l (⟨"com/example/foreslot/foreslot/CountsByEnd", "heldUntilAtLatest", "(J)J"⟩ : MethodName) (head1 (Jvm.Cond.code (⟨"com/example/foreslot/foreslot/CountsByEnd", "heldUntilAtLatest", "(J)J"⟩ : MethodName) prog_20_method_4_code 6 (some .long) :: ws) ({ frames := 0, cells := 0, slots := 0, locals := 0 } : Room)) (fun a U => a = #[(.ref oa), (.long qs)] ∧ Z.Warmed39 U.vm ∧ U.heap = h0) (fun _ _ _ _ _ => True) (fun _ U o U' => ∃ v L, o = .returned v ∧ Q_h0 Z oa qs ea ca kE kC h0 n0 v U'.heap L ∧ FrameEnd U o U' L ({ frames := 0, cells := 0, slots := 0, locals := 0 } : Room).cells ({ frames := 0, cells := 0, slots := 0, locals := 0 } : Room).slots) := by
  refine MetFree.of_bodySF (plainFor_of_name pn_1) hisR ?_
  intro p e s m args below meth c s₁ Bd hml0 hP hK
  obtain ⟨rfl, hZ, hh⟩ := hP
  have hx := Bd.exec
  have hby := Bd.bytes
  have hml : c.maxLocals = 6 := hml0
  have hown : s.vm.findClass "com/example/foreslot/foreslot/CountsByEnd" = some m.cls := findClass_of_methodNamed Bd.named
  have hnm := (name_of_methodNamed Bd.named Bd.method).1
  have X0 : Stand p l e ({ frames := 0, cells := 0, slots := 0, locals := 0 } : Room) s m #[(.ref oa), (.long qs)] below meth c s₁ [] 0 0 := Stand.of_body Bd
  have e0 : s₁.heap = h0 := by rw [← hh, Bd.state]; rfl
  have N0 := Fr.nil n0
  have pre0 : ∀ t, Steps p.tables e below (s₁.setTop (mkF m 0 #[.val (.ref oa), .val (.long qs), .second, .unset, .unset, .unset] [])) t → Steps p.tables e below (s₁.setTop (entryFrame m #[(.ref oa), (.long qs)] 6)) t := fun t k => castTop (ef_rm_h0 m oa qs) k
  obtain ⟨T1, X1, e1, st1⟩ := getF X0 hx hZ hown (host := "") (Or.inl (hw _ (List.mem_of_getElem? (i := 19) rfl))) Via.refl e0 F2 (g := (mkF m 8 #[.val (.ref oa), .val (.long qs), .second, .val (.long (0 : Int64)), .second, .val (.int (0 : Int32))] [(.ref oa), (.int (0 : Int32))])) rfl rfl (hb hby d10_8)
  have hc11_2 : ¬ ((0 : Int) < (0 : Int)) := by decide
  obtain ⟨fs, hr, hrun, hended, hW, hsame⟩ := X1.leave (v := some (.long (0 : Int64))) (fun h => by rw [Bd.returns] at h; cases h)
  refine ⟨_, _, pre0 _ ?_, hrun, hended, _, _, rfl, ?_, ⟨_, rfl⟩, hW, hsame.mono (by decide) (by decide)⟩
  · refine XS.lconst X0.here hx rfl (hb hby d10_0) ?_
    refine XS.lstoreN X0.here hx rfl (hb hby d10_1) rfl (l' := #[.val (.ref oa), .val (.long qs), .second, .val (.long (0 : Int64)), .second, .unset]) rfl ?_
    refine XS.iconst X0.here hx rfl (hb hby d10_2) ?_
    refine XS.istore X0.here hx rfl (hb hby d10_3) rfl (l' := #[.val (.ref oa), .val (.long qs), .second, .val (.long (0 : Int64)), .second, .val (.int (0 : Int32))]) rfl ?_
    show Steps p.tables e below (s₁.setTop (mkF m 5 #[.val (.ref oa), .val (.long qs), .second, .val (.long (0 : Int64)), .second, .val (.int (0 : Int32))] [])) _
    refine XS.iload X0.here hx rfl (hb hby d10_5) rfl ?_
    refine XS.aloadN X0.here hx rfl (hb hby d10_7) rfl rfl ?_
    refine st1 _ ?_
    refine XS.icmpYes X1.here hx rfl (pc0 := 11) (pc' := 42) rfl (hb hby d10_11) rfl (own_flt (a := (0 : Int32)) (b := (0 : Int32)) (by decide) (by decide) hc11_2).2.1 (by decide) (by decide) ?_
    refine XS.lloadN X1.here hx rfl (hb hby d10_42) rfl ?_
    show Steps p.tables e below (T1.setTop (mkF m 43 #[.val (.ref oa), .val (.long qs), .second, .val (.long (0 : Int64)), .second, .val (.int (0 : Int32))] [(.long (0 : Int64))])) _
    jvm_step X1.here [X1.here.top, hx, (hb hby d10_43), X1.method', Bd.returns, narrow]
    first | (intro acts; rw [hr _ acts rfl rfl rfl]) | rw [hr _ _ rfl rfl rfl]
    exact Steps.refl _
  · show Q_h0 Z oa qs ea ca kE kC h0 n0 _ T1.heap _
    rw [e1]
    exact ⟨_, rfl, by have iv : ((0 : Int64)).toInt = (0 : Int) := (by decide); omega, N0, rfl⟩
theorem d10_14 : decode prog_20_method_4_code 14 = .ok (.aload_n 0, 1) := by decide +kernel
theorem d10_15 : decode prog_20_method_4_code 15 = .ok (.getfield 9, 3) := by decide +kernel
theorem d10_18 : decode prog_20_method_4_code 18 = .ok (.iload 5, 2) := by decide +kernel
theorem d10_20 : decode prog_20_method_4_code 20 = .ok (.laload, 1) := by decide +kernel
theorem d10_21 : decode prog_20_method_4_code 21 = .ok (.lload_n 1, 1) := by decide +kernel
theorem d10_22 : decode prog_20_method_4_code 22 = .ok (.lcmp, 1) := by decide +kernel
theorem d10_23 : decode prog_20_method_4_code 23 = .ok (.ifCond .gt 19, 3) := by decide +kernel
theorem d10_26 : decode prog_20_method_4_code 26 = .ok (.lload_n 3, 1) := by decide +kernel
theorem d10_27 : decode prog_20_method_4_code 27 = .ok (.aload_n 0, 1) := by decide +kernel
theorem d10_28 : decode prog_20_method_4_code 28 = .ok (.getfield 13, 3) := by decide +kernel
theorem d10_31 : decode prog_20_method_4_code 31 = .ok (.iload 5, 2) := by decide +kernel
theorem d10_33 : decode prog_20_method_4_code 33 = .ok (.laload, 1) := by decide +kernel
theorem d10_34 : decode prog_20_method_4_code 34 = .ok (.ladd, 1) := by decide +kernel
theorem d10_35 : decode prog_20_method_4_code 35 = .ok (.lstore_n 3, 1) := by decide +kernel
theorem d10_36 : decode prog_20_method_4_code 36 = .ok (.iinc 5 1, 3) := by decide +kernel
theorem d10_39 : decode prog_20_method_4_code 39 = .ok (.goto (-34), 3) := by decide +kernel
theorem ef_rm_h1 (m : MethodId) (x0 : Addr) (x1 : Int64) : entryFrame m #[(.ref x0), (.long x1)] 6 = mkF m 0 #[.val (.ref x0), .val (.long x1), .second, .unset, .unset, .unset] [] := by first | (simp [entryFrame, mkF, argsToLocals, Value.category]; done) | rfl
def Q_h1 (Z : State) (oa : Addr) (qs : Int64) (ea : Addr) (ca : Addr) (kE : ClassId) (kC : ClassId) (x0 : Int64) (c0 : Int64) (h0 : Heap) (n0 : Nat) (v : Option Value) (h : Heap) (L : List Loc) : Prop := ∃ z : Int64, v = some (.long z) ∧ (z.toInt = own_f x0.toInt qs.toInt c0.toInt) ∧ Fr n0 L ∧ h = h0
set_option maxRecDepth 65536 in
set_option maxHeartbeats 40000000 in
theorem rm_h1 (l : Launch) (Z : State) (a0 : Array Value) (hw : ∀ d ∈ tables_1, d.before a0 Z = true) (ws : List Jvm.Cond) (oa : Addr) (qs : Int64) (ea : Addr) (ca : Addr) (kE : ClassId) (kC : ClassId) (x0 : Int64) (c0 : Int64) (h0 : Heap) (n0 : Nat) (Z0 : n0 ≤ h0.size) (Ea : Exa Z h0 oa "com/example/foreslot/foreslot/CountsByEnd") (F0 : Fld Z h0 oa "com/example/foreslot/foreslot/CountsByEnd" "ends" "[J" (.ref ea)) (F1 : Fld Z h0 oa "com/example/foreslot/foreslot/CountsByEnd" "counts" "[J" (.ref ca)) (F2 : Fld Z h0 oa "com/example/foreslot/foreslot/CountsByEnd" "size" "I" (.int (1 : Int32))) (V0 : Arv Z h0 ea kE .long (16 : Int32) [(.long x0), (.long (0 : Int64)), (.long (0 : Int64)), (.long (0 : Int64))] (.long (0 : Int64))) (V1 : Arv Z h0 ca kC .long (16 : Int32) [(.long c0), (.long (0 : Int64)), (.long (0 : Int64)), (.long (0 : Int64))] (.long (0 : Int64))) (kc0 : 1 ≤ c0.toInt) (kt : c0.toInt ≤ 100000) :
    MetFree l (⟨"com/example/foreslot/foreslot/CountsByEnd", "heldUntilAtLatest", "(J)J"⟩ : MethodName) (head1 (Jvm.Cond.code (⟨"com/example/foreslot/foreslot/CountsByEnd", "heldUntilAtLatest", "(J)J"⟩ : MethodName) prog_20_method_4_code 6 (some .long) :: ws) ({ frames := 0, cells := 0, slots := 0, locals := 0 } : Room)) (fun a U => a = #[(.ref oa), (.long qs)] ∧ Z.Warmed39 U.vm ∧ U.heap = h0) (fun _ _ _ _ _ => True) (fun _ U o U' => ∃ v L, o = .returned v ∧ Q_h1 Z oa qs ea ca kE kC x0 c0 h0 n0 v U'.heap L ∧ FrameEnd U o U' L ({ frames := 0, cells := 0, slots := 0, locals := 0 } : Room).cells ({ frames := 0, cells := 0, slots := 0, locals := 0 } : Room).slots) := by
  refine MetFree.of_bodySF (plainFor_of_name pn_1) hisR ?_
  intro p e s m args below meth c s₁ Bd hml0 hP hK
  obtain ⟨rfl, hZ, hh⟩ := hP
  have hx := Bd.exec
  have hby := Bd.bytes
  have hml : c.maxLocals = 6 := hml0
  have hown : s.vm.findClass "com/example/foreslot/foreslot/CountsByEnd" = some m.cls := findClass_of_methodNamed Bd.named
  have hnm := (name_of_methodNamed Bd.named Bd.method).1
  have X0 : Stand p l e ({ frames := 0, cells := 0, slots := 0, locals := 0 } : Room) s m #[(.ref oa), (.long qs)] below meth c s₁ [] 0 0 := Stand.of_body Bd
  have e0 : s₁.heap = h0 := by rw [← hh, Bd.state]; rfl
  have N0 := Fr.nil n0
  have pre0 : ∀ t, Steps p.tables e below (s₁.setTop (mkF m 0 #[.val (.ref oa), .val (.long qs), .second, .unset, .unset, .unset] [])) t → Steps p.tables e below (s₁.setTop (entryFrame m #[(.ref oa), (.long qs)] 6)) t := fun t k => castTop (ef_rm_h1 m oa qs) k
  obtain ⟨T1, X1, e1, st1⟩ := getF X0 hx hZ hown (host := "") (Or.inl (hw _ (List.mem_of_getElem? (i := 19) rfl))) Via.refl e0 F2 (g := (mkF m 8 #[.val (.ref oa), .val (.long qs), .second, .val (.long (0 : Int64)), .second, .val (.int (0 : Int32))] [(.ref oa), (.int (0 : Int32))])) rfl rfl (hb hby d10_8)
  have hc11_2 : (0 : Int) < (1 : Int) := by decide
  obtain ⟨T3, X3, e3, st3⟩ := getF X1 hx hZ hown (host := "") (Or.inl (hw _ (List.mem_of_getElem? (i := 10) rfl))) Via.refl e1 F0 (g := (mkF m 15 #[.val (.ref oa), .val (.long qs), .second, .val (.long (0 : Int64)), .second, .val (.int (0 : Int32))] [(.ref oa)])) rfl rfl (hb hby d10_15)
  obtain ⟨cl4, Ar4, q4, S4, M4, H4, G4⟩ := id V0
  have hin4 : ¬ ((0 : Int32) < 0 ∨ cl4.slots.size ≤ ((0 : Int32)).toNatClampNeg) := inb_of S4 ⟨by decide, by decide⟩
  have hat4 : cl4.slots[((0 : Int32)).toNatClampNeg]? = some (.long x0) := Has.at H4 hin4 rfl
  have pre6 : ∀ t, Steps p.tables e below (T3.setTop (mkF m 23 #[.val (.ref oa), .val (.long qs), .second, .val (.long (0 : Int64)), .second, .val (.int (0 : Int32))] [(.int (lcmpW x0 qs))])) t → Steps p.tables e below (s₁.setTop (entryFrame m #[(.ref oa), (.long qs)] 6)) t := fun t kt => by
    refine pre0 _ ?_
    refine XS.lconst X0.here hx rfl (hb hby d10_0) ?_
    refine XS.lstoreN X0.here hx rfl (hb hby d10_1) rfl (l' := #[.val (.ref oa), .val (.long qs), .second, .val (.long (0 : Int64)), .second, .unset]) rfl ?_
    refine XS.iconst X0.here hx rfl (hb hby d10_2) ?_
    refine XS.istore X0.here hx rfl (hb hby d10_3) rfl (l' := #[.val (.ref oa), .val (.long qs), .second, .val (.long (0 : Int64)), .second, .val (.int (0 : Int32))]) rfl ?_
    show Steps p.tables e below (s₁.setTop (mkF m 5 #[.val (.ref oa), .val (.long qs), .second, .val (.long (0 : Int64)), .second, .val (.int (0 : Int32))] [])) _
    refine XS.iload X0.here hx rfl (hb hby d10_5) rfl ?_
    refine XS.aloadN X0.here hx rfl (hb hby d10_7) rfl rfl ?_
    refine st1 _ ?_
    refine XS.icmpNo X1.here hx rfl (hb hby d10_11) rfl (own_tlt (a := (0 : Int32)) (b := (1 : Int32)) (by decide) (by decide) hc11_2).2.1 ?_
    refine XS.aloadN X1.here hx rfl (hb hby d10_14) rfl rfl ?_
    show Steps p.tables e below (T1.setTop (mkF m 15 #[.val (.ref oa), .val (.long qs), .second, .val (.long (0 : Int64)), .second, .val (.int (0 : Int32))] [(.ref oa)])) _
    refine st3 _ ?_
    refine XS.iload X3.here hx rfl (hb hby d10_18) rfl ?_
    refine X3.laload hx (j := (0 : Int32)) (v := (.long x0)) (by rw [e3]; exact Ar4.1) (State.isArrayOf_alike hZ.alike Ar4.2.1) Ar4.2.2 hin4 hat4 (g := (mkF m 20 #[.val (.ref oa), .val (.long qs), .second, .val (.long (0 : Int64)), .second, .val (.int (0 : Int32))] [(.int (0 : Int32)), (.ref ea)])) rfl rfl (hb hby d10_20) _ ?_
    refine XS.lloadN X3.here hx rfl (hb hby d10_21) rfl ?_
    refine XS.lcmp X3.here hx rfl (hb hby d10_22) rfl ?_
    exact kt
  by_cases hc23_5 : qs.toInt < x0.toInt
  · obtain ⟨fs, hr, hrun, hended, hW, hsame⟩ := X3.leave (v := some (.long (0 : Int64))) (fun h => by rw [Bd.returns] at h; cases h)
    refine ⟨_, _, pre6 _ ?_, hrun, hended, _, _, rfl, ?_, ⟨_, rfl⟩, hW, hsame.mono (by decide) (by decide)⟩
    · show Steps p.tables e below (T3.setTop (mkF m 23 #[.val (.ref oa), .val (.long qs), .second, .val (.long (0 : Int64)), .second, .val (.int (0 : Int32))] [(.int (lcmpW x0 qs))])) _
      refine XS.ifYes X3.here hx rfl (pc0 := 23) (pc' := 42) rfl (hb hby d10_23) rfl (own_if (own_tgtL (x := x0) (y := qs) rfl rfl hc23_5).1) (by decide) (by decide) ?_
      refine XS.lloadN X3.here hx rfl (hb hby d10_42) rfl ?_
      jvm_step X3.here [X3.here.top, hx, (hb hby d10_43), X3.method', Bd.returns, narrow]
      first | (intro acts; rw [hr _ acts rfl rfl rfl]) | rw [hr _ _ rfl rfl rfl]
      exact Steps.refl _
    · show Q_h1 Z oa qs ea ca kE kC x0 c0 h0 n0 _ T3.heap _
      rw [e3]
      exact ⟨_, rfl, by have iv : ((0 : Int64)).toInt = (0 : Int) := (by decide); rw [own_fn (x := x0.toInt) (by omega)]; omega, N0, rfl⟩
  · obtain ⟨T7, X7, e7, st7⟩ := getF X3 hx hZ hown (host := "") (Or.inl (hw _ (List.mem_of_getElem? (i := 12) rfl))) Via.refl e3 F1 (g := (mkF m 28 #[.val (.ref oa), .val (.long qs), .second, .val (.long (0 : Int64)), .second, .val (.int (0 : Int32))] [(.ref oa), (.long (0 : Int64))])) rfl rfl (hb hby d10_28)
    obtain ⟨cl8, Ar8, q8, S8, M8, H8, G8⟩ := id V1
    have hin8 : ¬ ((0 : Int32) < 0 ∨ cl8.slots.size ≤ ((0 : Int32)).toNatClampNeg) := inb_of S8 ⟨by decide, by decide⟩
    have hat8 : cl8.slots[((0 : Int32)).toNatClampNeg]? = some (.long c0) := Has.at H8 hin8 rfl
    have pre10 : ∀ t, Steps p.tables e below (T7.setTop (mkF m 36 #[.val (.ref oa), .val (.long qs), .second, .val (.long ((0 : Int64) + c0)), .second, .val (.int (0 : Int32))] [])) t → Steps p.tables e below (s₁.setTop (entryFrame m #[(.ref oa), (.long qs)] 6)) t := fun t kt => by
      refine pre6 _ ?_
      show Steps p.tables e below (T3.setTop (mkF m 23 #[.val (.ref oa), .val (.long qs), .second, .val (.long (0 : Int64)), .second, .val (.int (0 : Int32))] [(.int (lcmpW x0 qs))])) _
      refine XS.ifNo X3.here hx rfl (hb hby d10_23) rfl (own_if (own_fgtL (x := x0) (y := qs) rfl rfl hc23_5).1) ?_
      refine XS.lloadN X3.here hx rfl (hb hby d10_26) rfl ?_
      refine XS.aloadN X3.here hx rfl (hb hby d10_27) rfl rfl ?_
      refine st7 _ ?_
      show Steps p.tables e below (T7.setTop (mkF m 31 #[.val (.ref oa), .val (.long qs), .second, .val (.long (0 : Int64)), .second, .val (.int (0 : Int32))] [(.ref ca), (.long (0 : Int64))])) _
      refine XS.iload X7.here hx rfl (hb hby d10_31) rfl ?_
      refine X7.laload hx (j := (0 : Int32)) (v := (.long c0)) (by rw [e7]; exact Ar8.1) (State.isArrayOf_alike hZ.alike Ar8.2.1) Ar8.2.2 hin8 hat8 (g := (mkF m 33 #[.val (.ref oa), .val (.long qs), .second, .val (.long (0 : Int64)), .second, .val (.int (0 : Int32))] [(.int (0 : Int32)), (.ref ca), (.long (0 : Int64))])) rfl rfl (hb hby d10_33) _ ?_
      refine XS.ladd X7.here hx rfl (hb hby d10_34) rfl ?_
      refine XS.lstoreN X7.here hx rfl (hb hby d10_35) rfl (l' := #[.val (.ref oa), .val (.long qs), .second, .val (.long ((0 : Int64) + c0)), .second, .val (.int (0 : Int32))]) rfl ?_
      exact kt
    obtain ⟨hd0_9, hhd0_9⟩ : ∃ z : Int64, z = ((0 : Int64) + c0) := ⟨_, rfl⟩
    have ihd0_9 : hd0_9.toInt = c0.toInt := by rw [hhd0_9]; have := rng64 c0; (first | (have : (((0 : Int64) + c0)).toInt = (0 : Int) + c0.toInt := (by have : ((((0 : Int64) + c0)).toInt - ((0 : Int) + c0.toInt)) % 18446744073709551616 = 0 := c_ladd (0 : Int64) c0; have := rng64 ((0 : Int64) + c0); omega)) | (have : ((((0 : Int64) + c0)).toInt - ((0 : Int) + c0.toInt)) % 18446744073709551616 = 0 := c_ladd (0 : Int64) c0; have := rng64 ((0 : Int64) + c0))); omega
    have pre11 : ∀ t, Steps p.tables e below (T7.setTop (mkF m 36 #[.val (.ref oa), .val (.long qs), .second, .val (.long hd0_9), .second, .val (.int (0 : Int32))] [])) t → Steps p.tables e below (s₁.setTop (entryFrame m #[(.ref oa), (.long qs)] 6)) t := by rw [hhd0_9]; exact pre10
    obtain ⟨T12, X12, e12, st12⟩ := getF X7 hx hZ hown (host := "") (Or.inl (hw _ (List.mem_of_getElem? (i := 19) rfl))) Via.refl e7 F2 (g := (mkF m 8 #[.val (.ref oa), .val (.long qs), .second, .val (.long hd0_9), .second, .val (.int (1 : Int32))] [(.ref oa), (.int (1 : Int32))])) rfl rfl (hb hby d10_8)
    have hc11_13 : ¬ ((1 : Int) < (1 : Int)) := by decide
    obtain ⟨fs, hr, hrun, hended, hW, hsame⟩ := X12.leave (v := some (.long hd0_9)) (fun h => by rw [Bd.returns] at h; cases h)
    refine ⟨_, _, pre11 _ ?_, hrun, hended, _, _, rfl, ?_, ⟨_, rfl⟩, hW, hsame.mono (by decide) (by decide)⟩
    · refine XS.iinc X7.here hx rfl (hb hby d10_36) rfl (l' := #[.val (.ref oa), .val (.long qs), .second, .val (.long hd0_9), .second, .val (.int (1 : Int32))]) rfl ?_
      show Steps p.tables e below (T7.setTop (mkF m 39 #[.val (.ref oa), .val (.long qs), .second, .val (.long hd0_9), .second, .val (.int (1 : Int32))] [])) _
      refine XS.goto X7.here hx rfl (pc0 := 39) (pc' := 5) rfl (hb hby d10_39) (by decide) (by decide) ?_
      refine XS.iload X7.here hx rfl (hb hby d10_5) rfl ?_
      refine XS.aloadN X7.here hx rfl (hb hby d10_7) rfl rfl ?_
      refine st12 _ ?_
      refine XS.icmpYes X12.here hx rfl (pc0 := 11) (pc' := 42) rfl (hb hby d10_11) rfl (own_flt (a := (1 : Int32)) (b := (1 : Int32)) (by decide) (by decide) hc11_13).2.1 (by decide) (by decide) ?_
      show Steps p.tables e below (T12.setTop (mkF m 42 #[.val (.ref oa), .val (.long qs), .second, .val (.long hd0_9), .second, .val (.int (1 : Int32))] [])) _
      refine XS.lloadN X12.here hx rfl (hb hby d10_42) rfl ?_
      jvm_step X12.here [X12.here.top, hx, (hb hby d10_43), X12.method', Bd.returns, narrow]
      first | (intro acts; rw [hr _ acts rfl rfl rfl]) | rw [hr _ _ rfl rfl rfl]
      exact Steps.refl _
    · show Q_h1 Z oa qs ea ca kE kC x0 c0 h0 n0 _ T12.heap _
      rw [e12]
      exact ⟨_, rfl, by rw [own_fp (x := x0.toInt) (by omega)]; omega, N0, rfl⟩
theorem ef_rm_h2 (m : MethodId) (x0 : Addr) (x1 : Int64) : entryFrame m #[(.ref x0), (.long x1)] 6 = mkF m 0 #[.val (.ref x0), .val (.long x1), .second, .unset, .unset, .unset] [] := by first | (simp [entryFrame, mkF, argsToLocals, Value.category]; done) | rfl
def Q_h2 (Z : State) (oa : Addr) (qs : Int64) (ea : Addr) (ca : Addr) (kE : ClassId) (kC : ClassId) (x0 : Int64) (x1 : Int64) (c0 : Int64) (c1 : Int64) (h0 : Heap) (n0 : Nat) (v : Option Value) (h : Heap) (L : List Loc) : Prop := ∃ z : Int64, v = some (.long z) ∧ (z.toInt = own_f x0.toInt qs.toInt c0.toInt + own_f x1.toInt qs.toInt c1.toInt) ∧ Fr n0 L ∧ h = h0
set_option maxRecDepth 65536 in
set_option maxHeartbeats 40000000 in
theorem rm_h2 (l : Launch) (Z : State) (a0 : Array Value) (hw : ∀ d ∈ tables_1, d.before a0 Z = true) (ws : List Jvm.Cond) (oa : Addr) (qs : Int64) (ea : Addr) (ca : Addr) (kE : ClassId) (kC : ClassId) (x0 : Int64) (x1 : Int64) (c0 : Int64) (c1 : Int64) (h0 : Heap) (n0 : Nat) (Z0 : n0 ≤ h0.size) (Ea : Exa Z h0 oa "com/example/foreslot/foreslot/CountsByEnd") (F0 : Fld Z h0 oa "com/example/foreslot/foreslot/CountsByEnd" "ends" "[J" (.ref ea)) (F1 : Fld Z h0 oa "com/example/foreslot/foreslot/CountsByEnd" "counts" "[J" (.ref ca)) (F2 : Fld Z h0 oa "com/example/foreslot/foreslot/CountsByEnd" "size" "I" (.int (2 : Int32))) (V0 : Arv Z h0 ea kE .long (16 : Int32) [(.long x0), (.long x1), (.long (0 : Int64)), (.long (0 : Int64))] (.long (0 : Int64))) (V1 : Arv Z h0 ca kC .long (16 : Int32) [(.long c0), (.long c1), (.long (0 : Int64)), (.long (0 : Int64))] (.long (0 : Int64))) (os0 : x0.toInt < x1.toInt) (kc0 : 1 ≤ c0.toInt) (kc1 : 1 ≤ c1.toInt) (kt : c0.toInt + c1.toInt ≤ 100000) :
    MetFree l (⟨"com/example/foreslot/foreslot/CountsByEnd", "heldUntilAtLatest", "(J)J"⟩ : MethodName) (head1 (Jvm.Cond.code (⟨"com/example/foreslot/foreslot/CountsByEnd", "heldUntilAtLatest", "(J)J"⟩ : MethodName) prog_20_method_4_code 6 (some .long) :: ws) ({ frames := 0, cells := 0, slots := 0, locals := 0 } : Room)) (fun a U => a = #[(.ref oa), (.long qs)] ∧ Z.Warmed39 U.vm ∧ U.heap = h0) (fun _ _ _ _ _ => True) (fun _ U o U' => ∃ v L, o = .returned v ∧ Q_h2 Z oa qs ea ca kE kC x0 x1 c0 c1 h0 n0 v U'.heap L ∧ FrameEnd U o U' L ({ frames := 0, cells := 0, slots := 0, locals := 0 } : Room).cells ({ frames := 0, cells := 0, slots := 0, locals := 0 } : Room).slots) := by
  refine MetFree.of_bodySF (plainFor_of_name pn_1) hisR ?_
  intro p e s m args below meth c s₁ Bd hml0 hP hK
  obtain ⟨rfl, hZ, hh⟩ := hP
  have hx := Bd.exec
  have hby := Bd.bytes
  have hml : c.maxLocals = 6 := hml0
  have hown : s.vm.findClass "com/example/foreslot/foreslot/CountsByEnd" = some m.cls := findClass_of_methodNamed Bd.named
  have hnm := (name_of_methodNamed Bd.named Bd.method).1
  have X0 : Stand p l e ({ frames := 0, cells := 0, slots := 0, locals := 0 } : Room) s m #[(.ref oa), (.long qs)] below meth c s₁ [] 0 0 := Stand.of_body Bd
  have e0 : s₁.heap = h0 := by rw [← hh, Bd.state]; rfl
  have N0 := Fr.nil n0
  have pre0 : ∀ t, Steps p.tables e below (s₁.setTop (mkF m 0 #[.val (.ref oa), .val (.long qs), .second, .unset, .unset, .unset] [])) t → Steps p.tables e below (s₁.setTop (entryFrame m #[(.ref oa), (.long qs)] 6)) t := fun t k => castTop (ef_rm_h2 m oa qs) k
  obtain ⟨T1, X1, e1, st1⟩ := getF X0 hx hZ hown (host := "") (Or.inl (hw _ (List.mem_of_getElem? (i := 19) rfl))) Via.refl e0 F2 (g := (mkF m 8 #[.val (.ref oa), .val (.long qs), .second, .val (.long (0 : Int64)), .second, .val (.int (0 : Int32))] [(.ref oa), (.int (0 : Int32))])) rfl rfl (hb hby d10_8)
  have hc11_2 : (0 : Int) < (2 : Int) := by decide
  obtain ⟨T3, X3, e3, st3⟩ := getF X1 hx hZ hown (host := "") (Or.inl (hw _ (List.mem_of_getElem? (i := 10) rfl))) Via.refl e1 F0 (g := (mkF m 15 #[.val (.ref oa), .val (.long qs), .second, .val (.long (0 : Int64)), .second, .val (.int (0 : Int32))] [(.ref oa)])) rfl rfl (hb hby d10_15)
  obtain ⟨cl4, Ar4, q4, S4, M4, H4, G4⟩ := id V0
  have hin4 : ¬ ((0 : Int32) < 0 ∨ cl4.slots.size ≤ ((0 : Int32)).toNatClampNeg) := inb_of S4 ⟨by decide, by decide⟩
  have hat4 : cl4.slots[((0 : Int32)).toNatClampNeg]? = some (.long x0) := Has.at H4 hin4 rfl
  have pre6 : ∀ t, Steps p.tables e below (T3.setTop (mkF m 23 #[.val (.ref oa), .val (.long qs), .second, .val (.long (0 : Int64)), .second, .val (.int (0 : Int32))] [(.int (lcmpW x0 qs))])) t → Steps p.tables e below (s₁.setTop (entryFrame m #[(.ref oa), (.long qs)] 6)) t := fun t kt => by
    refine pre0 _ ?_
    refine XS.lconst X0.here hx rfl (hb hby d10_0) ?_
    refine XS.lstoreN X0.here hx rfl (hb hby d10_1) rfl (l' := #[.val (.ref oa), .val (.long qs), .second, .val (.long (0 : Int64)), .second, .unset]) rfl ?_
    refine XS.iconst X0.here hx rfl (hb hby d10_2) ?_
    refine XS.istore X0.here hx rfl (hb hby d10_3) rfl (l' := #[.val (.ref oa), .val (.long qs), .second, .val (.long (0 : Int64)), .second, .val (.int (0 : Int32))]) rfl ?_
    show Steps p.tables e below (s₁.setTop (mkF m 5 #[.val (.ref oa), .val (.long qs), .second, .val (.long (0 : Int64)), .second, .val (.int (0 : Int32))] [])) _
    refine XS.iload X0.here hx rfl (hb hby d10_5) rfl ?_
    refine XS.aloadN X0.here hx rfl (hb hby d10_7) rfl rfl ?_
    refine st1 _ ?_
    refine XS.icmpNo X1.here hx rfl (hb hby d10_11) rfl (own_tlt (a := (0 : Int32)) (b := (2 : Int32)) (by decide) (by decide) hc11_2).2.1 ?_
    refine XS.aloadN X1.here hx rfl (hb hby d10_14) rfl rfl ?_
    show Steps p.tables e below (T1.setTop (mkF m 15 #[.val (.ref oa), .val (.long qs), .second, .val (.long (0 : Int64)), .second, .val (.int (0 : Int32))] [(.ref oa)])) _
    refine st3 _ ?_
    refine XS.iload X3.here hx rfl (hb hby d10_18) rfl ?_
    refine X3.laload hx (j := (0 : Int32)) (v := (.long x0)) (by rw [e3]; exact Ar4.1) (State.isArrayOf_alike hZ.alike Ar4.2.1) Ar4.2.2 hin4 hat4 (g := (mkF m 20 #[.val (.ref oa), .val (.long qs), .second, .val (.long (0 : Int64)), .second, .val (.int (0 : Int32))] [(.int (0 : Int32)), (.ref ea)])) rfl rfl (hb hby d10_20) _ ?_
    refine XS.lloadN X3.here hx rfl (hb hby d10_21) rfl ?_
    refine XS.lcmp X3.here hx rfl (hb hby d10_22) rfl ?_
    exact kt
  by_cases hc23_5 : qs.toInt < x0.toInt
  · obtain ⟨fs, hr, hrun, hended, hW, hsame⟩ := X3.leave (v := some (.long (0 : Int64))) (fun h => by rw [Bd.returns] at h; cases h)
    refine ⟨_, _, pre6 _ ?_, hrun, hended, _, _, rfl, ?_, ⟨_, rfl⟩, hW, hsame.mono (by decide) (by decide)⟩
    · show Steps p.tables e below (T3.setTop (mkF m 23 #[.val (.ref oa), .val (.long qs), .second, .val (.long (0 : Int64)), .second, .val (.int (0 : Int32))] [(.int (lcmpW x0 qs))])) _
      refine XS.ifYes X3.here hx rfl (pc0 := 23) (pc' := 42) rfl (hb hby d10_23) rfl (own_if (own_tgtL (x := x0) (y := qs) rfl rfl hc23_5).1) (by decide) (by decide) ?_
      refine XS.lloadN X3.here hx rfl (hb hby d10_42) rfl ?_
      jvm_step X3.here [X3.here.top, hx, (hb hby d10_43), X3.method', Bd.returns, narrow]
      first | (intro acts; rw [hr _ acts rfl rfl rfl]) | rw [hr _ _ rfl rfl rfl]
      exact Steps.refl _
    · show Q_h2 Z oa qs ea ca kE kC x0 x1 c0 c1 h0 n0 _ T3.heap _
      rw [e3]
      exact ⟨_, rfl, by have iv : ((0 : Int64)).toInt = (0 : Int) := (by decide); rw [own_fn (x := x0.toInt) (by omega)]; rw [own_fn (x := x1.toInt) (by omega)]; omega, N0, rfl⟩
  · obtain ⟨T7, X7, e7, st7⟩ := getF X3 hx hZ hown (host := "") (Or.inl (hw _ (List.mem_of_getElem? (i := 12) rfl))) Via.refl e3 F1 (g := (mkF m 28 #[.val (.ref oa), .val (.long qs), .second, .val (.long (0 : Int64)), .second, .val (.int (0 : Int32))] [(.ref oa), (.long (0 : Int64))])) rfl rfl (hb hby d10_28)
    obtain ⟨cl8, Ar8, q8, S8, M8, H8, G8⟩ := id V1
    have hin8 : ¬ ((0 : Int32) < 0 ∨ cl8.slots.size ≤ ((0 : Int32)).toNatClampNeg) := inb_of S8 ⟨by decide, by decide⟩
    have hat8 : cl8.slots[((0 : Int32)).toNatClampNeg]? = some (.long c0) := Has.at H8 hin8 rfl
    have pre10 : ∀ t, Steps p.tables e below (T7.setTop (mkF m 36 #[.val (.ref oa), .val (.long qs), .second, .val (.long ((0 : Int64) + c0)), .second, .val (.int (0 : Int32))] [])) t → Steps p.tables e below (s₁.setTop (entryFrame m #[(.ref oa), (.long qs)] 6)) t := fun t kt => by
      refine pre6 _ ?_
      show Steps p.tables e below (T3.setTop (mkF m 23 #[.val (.ref oa), .val (.long qs), .second, .val (.long (0 : Int64)), .second, .val (.int (0 : Int32))] [(.int (lcmpW x0 qs))])) _
      refine XS.ifNo X3.here hx rfl (hb hby d10_23) rfl (own_if (own_fgtL (x := x0) (y := qs) rfl rfl hc23_5).1) ?_
      refine XS.lloadN X3.here hx rfl (hb hby d10_26) rfl ?_
      refine XS.aloadN X3.here hx rfl (hb hby d10_27) rfl rfl ?_
      refine st7 _ ?_
      show Steps p.tables e below (T7.setTop (mkF m 31 #[.val (.ref oa), .val (.long qs), .second, .val (.long (0 : Int64)), .second, .val (.int (0 : Int32))] [(.ref ca), (.long (0 : Int64))])) _
      refine XS.iload X7.here hx rfl (hb hby d10_31) rfl ?_
      refine X7.laload hx (j := (0 : Int32)) (v := (.long c0)) (by rw [e7]; exact Ar8.1) (State.isArrayOf_alike hZ.alike Ar8.2.1) Ar8.2.2 hin8 hat8 (g := (mkF m 33 #[.val (.ref oa), .val (.long qs), .second, .val (.long (0 : Int64)), .second, .val (.int (0 : Int32))] [(.int (0 : Int32)), (.ref ca), (.long (0 : Int64))])) rfl rfl (hb hby d10_33) _ ?_
      refine XS.ladd X7.here hx rfl (hb hby d10_34) rfl ?_
      refine XS.lstoreN X7.here hx rfl (hb hby d10_35) rfl (l' := #[.val (.ref oa), .val (.long qs), .second, .val (.long ((0 : Int64) + c0)), .second, .val (.int (0 : Int32))]) rfl ?_
      exact kt
    obtain ⟨hd0_9, hhd0_9⟩ : ∃ z : Int64, z = ((0 : Int64) + c0) := ⟨_, rfl⟩
    have ihd0_9 : hd0_9.toInt = c0.toInt := by rw [hhd0_9]; have := rng64 c0; (first | (have : (((0 : Int64) + c0)).toInt = (0 : Int) + c0.toInt := (by have : ((((0 : Int64) + c0)).toInt - ((0 : Int) + c0.toInt)) % 18446744073709551616 = 0 := c_ladd (0 : Int64) c0; have := rng64 ((0 : Int64) + c0); omega)) | (have : ((((0 : Int64) + c0)).toInt - ((0 : Int) + c0.toInt)) % 18446744073709551616 = 0 := c_ladd (0 : Int64) c0; have := rng64 ((0 : Int64) + c0))); omega
    have pre11 : ∀ t, Steps p.tables e below (T7.setTop (mkF m 36 #[.val (.ref oa), .val (.long qs), .second, .val (.long hd0_9), .second, .val (.int (0 : Int32))] [])) t → Steps p.tables e below (s₁.setTop (entryFrame m #[(.ref oa), (.long qs)] 6)) t := by rw [hhd0_9]; exact pre10
    obtain ⟨T12, X12, e12, st12⟩ := getF X7 hx hZ hown (host := "") (Or.inl (hw _ (List.mem_of_getElem? (i := 19) rfl))) Via.refl e7 F2 (g := (mkF m 8 #[.val (.ref oa), .val (.long qs), .second, .val (.long hd0_9), .second, .val (.int (1 : Int32))] [(.ref oa), (.int (1 : Int32))])) rfl rfl (hb hby d10_8)
    have hc11_13 : (1 : Int) < (2 : Int) := by decide
    obtain ⟨T14, X14, e14, st14⟩ := getF X12 hx hZ hown (host := "") (Or.inl (hw _ (List.mem_of_getElem? (i := 10) rfl))) Via.refl e12 F0 (g := (mkF m 15 #[.val (.ref oa), .val (.long qs), .second, .val (.long hd0_9), .second, .val (.int (1 : Int32))] [(.ref oa)])) rfl rfl (hb hby d10_15)
    obtain ⟨cl15, Ar15, q15, S15, M15, H15, G15⟩ := id V0
    have hin15 : ¬ ((1 : Int32) < 0 ∨ cl15.slots.size ≤ ((1 : Int32)).toNatClampNeg) := inb_of S15 ⟨by decide, by decide⟩
    have hat15 : cl15.slots[((1 : Int32)).toNatClampNeg]? = some (.long x1) := Has.at H15 hin15 rfl
    have pre17 : ∀ t, Steps p.tables e below (T14.setTop (mkF m 23 #[.val (.ref oa), .val (.long qs), .second, .val (.long hd0_9), .second, .val (.int (1 : Int32))] [(.int (lcmpW x1 qs))])) t → Steps p.tables e below (s₁.setTop (entryFrame m #[(.ref oa), (.long qs)] 6)) t := fun t kt => by
      refine pre11 _ ?_
      refine XS.iinc X7.here hx rfl (hb hby d10_36) rfl (l' := #[.val (.ref oa), .val (.long qs), .second, .val (.long hd0_9), .second, .val (.int (1 : Int32))]) rfl ?_
      show Steps p.tables e below (T7.setTop (mkF m 39 #[.val (.ref oa), .val (.long qs), .second, .val (.long hd0_9), .second, .val (.int (1 : Int32))] [])) _
      refine XS.goto X7.here hx rfl (pc0 := 39) (pc' := 5) rfl (hb hby d10_39) (by decide) (by decide) ?_
      refine XS.iload X7.here hx rfl (hb hby d10_5) rfl ?_
      refine XS.aloadN X7.here hx rfl (hb hby d10_7) rfl rfl ?_
      refine st12 _ ?_
      refine XS.icmpNo X12.here hx rfl (hb hby d10_11) rfl (own_tlt (a := (1 : Int32)) (b := (2 : Int32)) (by decide) (by decide) hc11_13).2.1 ?_
      show Steps p.tables e below (T12.setTop (mkF m 14 #[.val (.ref oa), .val (.long qs), .second, .val (.long hd0_9), .second, .val (.int (1 : Int32))] [])) _
      refine XS.aloadN X12.here hx rfl (hb hby d10_14) rfl rfl ?_
      refine st14 _ ?_
      refine XS.iload X14.here hx rfl (hb hby d10_18) rfl ?_
      refine X14.laload hx (j := (1 : Int32)) (v := (.long x1)) (by rw [e14]; exact Ar15.1) (State.isArrayOf_alike hZ.alike Ar15.2.1) Ar15.2.2 hin15 hat15 (g := (mkF m 20 #[.val (.ref oa), .val (.long qs), .second, .val (.long hd0_9), .second, .val (.int (1 : Int32))] [(.int (1 : Int32)), (.ref ea)])) rfl rfl (hb hby d10_20) _ ?_
      refine XS.lloadN X14.here hx rfl (hb hby d10_21) rfl ?_
      show Steps p.tables e below (T14.setTop (mkF m 22 #[.val (.ref oa), .val (.long qs), .second, .val (.long hd0_9), .second, .val (.int (1 : Int32))] [(.long qs), (.long x1)])) _
      refine XS.lcmp X14.here hx rfl (hb hby d10_22) rfl ?_
      exact kt
    by_cases hc23_16 : qs.toInt < x1.toInt
    · obtain ⟨fs, hr, hrun, hended, hW, hsame⟩ := X14.leave (v := some (.long hd0_9)) (fun h => by rw [Bd.returns] at h; cases h)
      refine ⟨_, _, pre17 _ ?_, hrun, hended, _, _, rfl, ?_, ⟨_, rfl⟩, hW, hsame.mono (by decide) (by decide)⟩
      · show Steps p.tables e below (T14.setTop (mkF m 23 #[.val (.ref oa), .val (.long qs), .second, .val (.long hd0_9), .second, .val (.int (1 : Int32))] [(.int (lcmpW x1 qs))])) _
        refine XS.ifYes X14.here hx rfl (pc0 := 23) (pc' := 42) rfl (hb hby d10_23) rfl (own_if (own_tgtL (x := x1) (y := qs) rfl rfl hc23_16).1) (by decide) (by decide) ?_
        refine XS.lloadN X14.here hx rfl (hb hby d10_42) rfl ?_
        jvm_step X14.here [X14.here.top, hx, (hb hby d10_43), X14.method', Bd.returns, narrow]
        first | (intro acts; rw [hr _ acts rfl rfl rfl]) | rw [hr _ _ rfl rfl rfl]
        exact Steps.refl _
      · show Q_h2 Z oa qs ea ca kE kC x0 x1 c0 c1 h0 n0 _ T14.heap _
        rw [e14]
        exact ⟨_, rfl, by rw [own_fp (x := x0.toInt) (by omega)]; rw [own_fn (x := x1.toInt) (by omega)]; omega, N0, rfl⟩
    · obtain ⟨T18, X18, e18, st18⟩ := getF X14 hx hZ hown (host := "") (Or.inl (hw _ (List.mem_of_getElem? (i := 12) rfl))) Via.refl e14 F1 (g := (mkF m 28 #[.val (.ref oa), .val (.long qs), .second, .val (.long hd0_9), .second, .val (.int (1 : Int32))] [(.ref oa), (.long hd0_9)])) rfl rfl (hb hby d10_28)
      obtain ⟨cl19, Ar19, q19, S19, M19, H19, G19⟩ := id V1
      have hin19 : ¬ ((1 : Int32) < 0 ∨ cl19.slots.size ≤ ((1 : Int32)).toNatClampNeg) := inb_of S19 ⟨by decide, by decide⟩
      have hat19 : cl19.slots[((1 : Int32)).toNatClampNeg]? = some (.long c1) := Has.at H19 hin19 rfl
      have pre21 : ∀ t, Steps p.tables e below (T18.setTop (mkF m 36 #[.val (.ref oa), .val (.long qs), .second, .val (.long (hd0_9 + c1)), .second, .val (.int (1 : Int32))] [])) t → Steps p.tables e below (s₁.setTop (entryFrame m #[(.ref oa), (.long qs)] 6)) t := fun t kt => by
        refine pre17 _ ?_
        show Steps p.tables e below (T14.setTop (mkF m 23 #[.val (.ref oa), .val (.long qs), .second, .val (.long hd0_9), .second, .val (.int (1 : Int32))] [(.int (lcmpW x1 qs))])) _
        refine XS.ifNo X14.here hx rfl (hb hby d10_23) rfl (own_if (own_fgtL (x := x1) (y := qs) rfl rfl hc23_16).1) ?_
        refine XS.lloadN X14.here hx rfl (hb hby d10_26) rfl ?_
        refine XS.aloadN X14.here hx rfl (hb hby d10_27) rfl rfl ?_
        show Steps p.tables e below (T14.setTop (mkF m 28 #[.val (.ref oa), .val (.long qs), .second, .val (.long hd0_9), .second, .val (.int (1 : Int32))] [(.ref oa), (.long hd0_9)])) _
        refine st18 _ ?_
        refine XS.iload X18.here hx rfl (hb hby d10_31) rfl ?_
        refine X18.laload hx (j := (1 : Int32)) (v := (.long c1)) (by rw [e18]; exact Ar19.1) (State.isArrayOf_alike hZ.alike Ar19.2.1) Ar19.2.2 hin19 hat19 (g := (mkF m 33 #[.val (.ref oa), .val (.long qs), .second, .val (.long hd0_9), .second, .val (.int (1 : Int32))] [(.int (1 : Int32)), (.ref ca), (.long hd0_9)])) rfl rfl (hb hby d10_33) _ ?_
        refine XS.ladd X18.here hx rfl (hb hby d10_34) rfl ?_
        refine XS.lstoreN X18.here hx rfl (hb hby d10_35) rfl (l' := #[.val (.ref oa), .val (.long qs), .second, .val (.long (hd0_9 + c1)), .second, .val (.int (1 : Int32))]) rfl ?_
        exact kt
      obtain ⟨hd1_20, hhd1_20⟩ : ∃ z : Int64, z = (hd0_9 + c1) := ⟨_, rfl⟩
      have ihd1_20 : hd1_20.toInt = c0.toInt + c1.toInt := by rw [hhd1_20]; have := rng64 hd0_9; have := rng64 c1; (first | (have : ((hd0_9 + c1)).toInt = hd0_9.toInt + c1.toInt := (by have : (((hd0_9 + c1)).toInt - (hd0_9.toInt + c1.toInt)) % 18446744073709551616 = 0 := c_ladd hd0_9 c1; have := rng64 (hd0_9 + c1); omega)) | (have : (((hd0_9 + c1)).toInt - (hd0_9.toInt + c1.toInt)) % 18446744073709551616 = 0 := c_ladd hd0_9 c1; have := rng64 (hd0_9 + c1))); omega
      have pre22 : ∀ t, Steps p.tables e below (T18.setTop (mkF m 36 #[.val (.ref oa), .val (.long qs), .second, .val (.long hd1_20), .second, .val (.int (1 : Int32))] [])) t → Steps p.tables e below (s₁.setTop (entryFrame m #[(.ref oa), (.long qs)] 6)) t := by rw [hhd1_20]; exact pre21
      obtain ⟨T23, X23, e23, st23⟩ := getF X18 hx hZ hown (host := "") (Or.inl (hw _ (List.mem_of_getElem? (i := 19) rfl))) Via.refl e18 F2 (g := (mkF m 8 #[.val (.ref oa), .val (.long qs), .second, .val (.long hd1_20), .second, .val (.int (2 : Int32))] [(.ref oa), (.int (2 : Int32))])) rfl rfl (hb hby d10_8)
      have hc11_24 : ¬ ((2 : Int) < (2 : Int)) := by decide
      obtain ⟨fs, hr, hrun, hended, hW, hsame⟩ := X23.leave (v := some (.long hd1_20)) (fun h => by rw [Bd.returns] at h; cases h)
      refine ⟨_, _, pre22 _ ?_, hrun, hended, _, _, rfl, ?_, ⟨_, rfl⟩, hW, hsame.mono (by decide) (by decide)⟩
      · show Steps p.tables e below (T18.setTop (mkF m 36 #[.val (.ref oa), .val (.long qs), .second, .val (.long hd1_20), .second, .val (.int (1 : Int32))] [])) _
        refine XS.iinc X18.here hx rfl (hb hby d10_36) rfl (l' := #[.val (.ref oa), .val (.long qs), .second, .val (.long hd1_20), .second, .val (.int (2 : Int32))]) rfl ?_
        refine XS.goto X18.here hx rfl (pc0 := 39) (pc' := 5) rfl (hb hby d10_39) (by decide) (by decide) ?_
        refine XS.iload X18.here hx rfl (hb hby d10_5) rfl ?_
        refine XS.aloadN X18.here hx rfl (hb hby d10_7) rfl rfl ?_
        refine st23 _ ?_
        show Steps p.tables e below (T23.setTop (mkF m 11 #[.val (.ref oa), .val (.long qs), .second, .val (.long hd1_20), .second, .val (.int (2 : Int32))] [(.int (2 : Int32)), (.int (2 : Int32))])) _
        refine XS.icmpYes X23.here hx rfl (pc0 := 11) (pc' := 42) rfl (hb hby d10_11) rfl (own_flt (a := (2 : Int32)) (b := (2 : Int32)) (by decide) (by decide) hc11_24).2.1 (by decide) (by decide) ?_
        refine XS.lloadN X23.here hx rfl (hb hby d10_42) rfl ?_
        jvm_step X23.here [X23.here.top, hx, (hb hby d10_43), X23.method', Bd.returns, narrow]
        first | (intro acts; rw [hr _ acts rfl rfl rfl]) | rw [hr _ _ rfl rfl rfl]
        exact Steps.refl _
      · show Q_h2 Z oa qs ea ca kE kC x0 x1 c0 c1 h0 n0 _ T23.heap _
        rw [e23]
        exact ⟨_, rfl, by rw [own_fp (x := x0.toInt) (by omega)]; rw [own_fp (x := x1.toInt) (by omega)]; omega, N0, rfl⟩
theorem ef_rm_h3 (m : MethodId) (x0 : Addr) (x1 : Int64) : entryFrame m #[(.ref x0), (.long x1)] 6 = mkF m 0 #[.val (.ref x0), .val (.long x1), .second, .unset, .unset, .unset] [] := by first | (simp [entryFrame, mkF, argsToLocals, Value.category]; done) | rfl
def Q_h3 (Z : State) (oa : Addr) (qs : Int64) (ea : Addr) (ca : Addr) (kE : ClassId) (kC : ClassId) (x0 : Int64) (x1 : Int64) (x2 : Int64) (c0 : Int64) (c1 : Int64) (c2 : Int64) (h0 : Heap) (n0 : Nat) (v : Option Value) (h : Heap) (L : List Loc) : Prop := ∃ z : Int64, v = some (.long z) ∧ (z.toInt = own_f x0.toInt qs.toInt c0.toInt + own_f x1.toInt qs.toInt c1.toInt + own_f x2.toInt qs.toInt c2.toInt) ∧ Fr n0 L ∧ h = h0
set_option maxRecDepth 65536 in
set_option maxHeartbeats 40000000 in
theorem rm_h3 (l : Launch) (Z : State) (a0 : Array Value) (hw : ∀ d ∈ tables_1, d.before a0 Z = true) (ws : List Jvm.Cond) (oa : Addr) (qs : Int64) (ea : Addr) (ca : Addr) (kE : ClassId) (kC : ClassId) (x0 : Int64) (x1 : Int64) (x2 : Int64) (c0 : Int64) (c1 : Int64) (c2 : Int64) (h0 : Heap) (n0 : Nat) (Z0 : n0 ≤ h0.size) (Ea : Exa Z h0 oa "com/example/foreslot/foreslot/CountsByEnd") (F0 : Fld Z h0 oa "com/example/foreslot/foreslot/CountsByEnd" "ends" "[J" (.ref ea)) (F1 : Fld Z h0 oa "com/example/foreslot/foreslot/CountsByEnd" "counts" "[J" (.ref ca)) (F2 : Fld Z h0 oa "com/example/foreslot/foreslot/CountsByEnd" "size" "I" (.int (3 : Int32))) (V0 : Arv Z h0 ea kE .long (16 : Int32) [(.long x0), (.long x1), (.long x2), (.long (0 : Int64))] (.long (0 : Int64))) (V1 : Arv Z h0 ca kC .long (16 : Int32) [(.long c0), (.long c1), (.long c2), (.long (0 : Int64))] (.long (0 : Int64))) (os0 : x0.toInt < x1.toInt) (os1 : x1.toInt < x2.toInt) (kc0 : 1 ≤ c0.toInt) (kc1 : 1 ≤ c1.toInt) (kc2 : 1 ≤ c2.toInt) (kt : c0.toInt + c1.toInt + c2.toInt ≤ 100000) :
    MetFree l (⟨"com/example/foreslot/foreslot/CountsByEnd", "heldUntilAtLatest", "(J)J"⟩ : MethodName) (head1 (Jvm.Cond.code (⟨"com/example/foreslot/foreslot/CountsByEnd", "heldUntilAtLatest", "(J)J"⟩ : MethodName) prog_20_method_4_code 6 (some .long) :: ws) ({ frames := 0, cells := 0, slots := 0, locals := 0 } : Room)) (fun a U => a = #[(.ref oa), (.long qs)] ∧ Z.Warmed39 U.vm ∧ U.heap = h0) (fun _ _ _ _ _ => True) (fun _ U o U' => ∃ v L, o = .returned v ∧ Q_h3 Z oa qs ea ca kE kC x0 x1 x2 c0 c1 c2 h0 n0 v U'.heap L ∧ FrameEnd U o U' L ({ frames := 0, cells := 0, slots := 0, locals := 0 } : Room).cells ({ frames := 0, cells := 0, slots := 0, locals := 0 } : Room).slots) := by
  refine MetFree.of_bodySF (plainFor_of_name pn_1) hisR ?_
  intro p e s m args below meth c s₁ Bd hml0 hP hK
  obtain ⟨rfl, hZ, hh⟩ := hP
  have hx := Bd.exec
  have hby := Bd.bytes
  have hml : c.maxLocals = 6 := hml0
  have hown : s.vm.findClass "com/example/foreslot/foreslot/CountsByEnd" = some m.cls := findClass_of_methodNamed Bd.named
  have hnm := (name_of_methodNamed Bd.named Bd.method).1
  have X0 : Stand p l e ({ frames := 0, cells := 0, slots := 0, locals := 0 } : Room) s m #[(.ref oa), (.long qs)] below meth c s₁ [] 0 0 := Stand.of_body Bd
  have e0 : s₁.heap = h0 := by rw [← hh, Bd.state]; rfl
  have N0 := Fr.nil n0
  have pre0 : ∀ t, Steps p.tables e below (s₁.setTop (mkF m 0 #[.val (.ref oa), .val (.long qs), .second, .unset, .unset, .unset] [])) t → Steps p.tables e below (s₁.setTop (entryFrame m #[(.ref oa), (.long qs)] 6)) t := fun t k => castTop (ef_rm_h3 m oa qs) k
  obtain ⟨T1, X1, e1, st1⟩ := getF X0 hx hZ hown (host := "") (Or.inl (hw _ (List.mem_of_getElem? (i := 19) rfl))) Via.refl e0 F2 (g := (mkF m 8 #[.val (.ref oa), .val (.long qs), .second, .val (.long (0 : Int64)), .second, .val (.int (0 : Int32))] [(.ref oa), (.int (0 : Int32))])) rfl rfl (hb hby d10_8)
  have hc11_2 : (0 : Int) < (3 : Int) := by decide
  obtain ⟨T3, X3, e3, st3⟩ := getF X1 hx hZ hown (host := "") (Or.inl (hw _ (List.mem_of_getElem? (i := 10) rfl))) Via.refl e1 F0 (g := (mkF m 15 #[.val (.ref oa), .val (.long qs), .second, .val (.long (0 : Int64)), .second, .val (.int (0 : Int32))] [(.ref oa)])) rfl rfl (hb hby d10_15)
  obtain ⟨cl4, Ar4, q4, S4, M4, H4, G4⟩ := id V0
  have hin4 : ¬ ((0 : Int32) < 0 ∨ cl4.slots.size ≤ ((0 : Int32)).toNatClampNeg) := inb_of S4 ⟨by decide, by decide⟩
  have hat4 : cl4.slots[((0 : Int32)).toNatClampNeg]? = some (.long x0) := Has.at H4 hin4 rfl
  have pre6 : ∀ t, Steps p.tables e below (T3.setTop (mkF m 23 #[.val (.ref oa), .val (.long qs), .second, .val (.long (0 : Int64)), .second, .val (.int (0 : Int32))] [(.int (lcmpW x0 qs))])) t → Steps p.tables e below (s₁.setTop (entryFrame m #[(.ref oa), (.long qs)] 6)) t := fun t kt => by
    refine pre0 _ ?_
    refine XS.lconst X0.here hx rfl (hb hby d10_0) ?_
    refine XS.lstoreN X0.here hx rfl (hb hby d10_1) rfl (l' := #[.val (.ref oa), .val (.long qs), .second, .val (.long (0 : Int64)), .second, .unset]) rfl ?_
    refine XS.iconst X0.here hx rfl (hb hby d10_2) ?_
    refine XS.istore X0.here hx rfl (hb hby d10_3) rfl (l' := #[.val (.ref oa), .val (.long qs), .second, .val (.long (0 : Int64)), .second, .val (.int (0 : Int32))]) rfl ?_
    show Steps p.tables e below (s₁.setTop (mkF m 5 #[.val (.ref oa), .val (.long qs), .second, .val (.long (0 : Int64)), .second, .val (.int (0 : Int32))] [])) _
    refine XS.iload X0.here hx rfl (hb hby d10_5) rfl ?_
    refine XS.aloadN X0.here hx rfl (hb hby d10_7) rfl rfl ?_
    refine st1 _ ?_
    refine XS.icmpNo X1.here hx rfl (hb hby d10_11) rfl (own_tlt (a := (0 : Int32)) (b := (3 : Int32)) (by decide) (by decide) hc11_2).2.1 ?_
    refine XS.aloadN X1.here hx rfl (hb hby d10_14) rfl rfl ?_
    show Steps p.tables e below (T1.setTop (mkF m 15 #[.val (.ref oa), .val (.long qs), .second, .val (.long (0 : Int64)), .second, .val (.int (0 : Int32))] [(.ref oa)])) _
    refine st3 _ ?_
    refine XS.iload X3.here hx rfl (hb hby d10_18) rfl ?_
    refine X3.laload hx (j := (0 : Int32)) (v := (.long x0)) (by rw [e3]; exact Ar4.1) (State.isArrayOf_alike hZ.alike Ar4.2.1) Ar4.2.2 hin4 hat4 (g := (mkF m 20 #[.val (.ref oa), .val (.long qs), .second, .val (.long (0 : Int64)), .second, .val (.int (0 : Int32))] [(.int (0 : Int32)), (.ref ea)])) rfl rfl (hb hby d10_20) _ ?_
    refine XS.lloadN X3.here hx rfl (hb hby d10_21) rfl ?_
    refine XS.lcmp X3.here hx rfl (hb hby d10_22) rfl ?_
    exact kt
  by_cases hc23_5 : qs.toInt < x0.toInt
  · obtain ⟨fs, hr, hrun, hended, hW, hsame⟩ := X3.leave (v := some (.long (0 : Int64))) (fun h => by rw [Bd.returns] at h; cases h)
    refine ⟨_, _, pre6 _ ?_, hrun, hended, _, _, rfl, ?_, ⟨_, rfl⟩, hW, hsame.mono (by decide) (by decide)⟩
    · show Steps p.tables e below (T3.setTop (mkF m 23 #[.val (.ref oa), .val (.long qs), .second, .val (.long (0 : Int64)), .second, .val (.int (0 : Int32))] [(.int (lcmpW x0 qs))])) _
      refine XS.ifYes X3.here hx rfl (pc0 := 23) (pc' := 42) rfl (hb hby d10_23) rfl (own_if (own_tgtL (x := x0) (y := qs) rfl rfl hc23_5).1) (by decide) (by decide) ?_
      refine XS.lloadN X3.here hx rfl (hb hby d10_42) rfl ?_
      jvm_step X3.here [X3.here.top, hx, (hb hby d10_43), X3.method', Bd.returns, narrow]
      first | (intro acts; rw [hr _ acts rfl rfl rfl]) | rw [hr _ _ rfl rfl rfl]
      exact Steps.refl _
    · show Q_h3 Z oa qs ea ca kE kC x0 x1 x2 c0 c1 c2 h0 n0 _ T3.heap _
      rw [e3]
      exact ⟨_, rfl, by have iv : ((0 : Int64)).toInt = (0 : Int) := (by decide); rw [own_fn (x := x0.toInt) (by omega)]; rw [own_fn (x := x1.toInt) (by omega)]; rw [own_fn (x := x2.toInt) (by omega)]; omega, N0, rfl⟩
  · obtain ⟨T7, X7, e7, st7⟩ := getF X3 hx hZ hown (host := "") (Or.inl (hw _ (List.mem_of_getElem? (i := 12) rfl))) Via.refl e3 F1 (g := (mkF m 28 #[.val (.ref oa), .val (.long qs), .second, .val (.long (0 : Int64)), .second, .val (.int (0 : Int32))] [(.ref oa), (.long (0 : Int64))])) rfl rfl (hb hby d10_28)
    obtain ⟨cl8, Ar8, q8, S8, M8, H8, G8⟩ := id V1
    have hin8 : ¬ ((0 : Int32) < 0 ∨ cl8.slots.size ≤ ((0 : Int32)).toNatClampNeg) := inb_of S8 ⟨by decide, by decide⟩
    have hat8 : cl8.slots[((0 : Int32)).toNatClampNeg]? = some (.long c0) := Has.at H8 hin8 rfl
    have pre10 : ∀ t, Steps p.tables e below (T7.setTop (mkF m 36 #[.val (.ref oa), .val (.long qs), .second, .val (.long ((0 : Int64) + c0)), .second, .val (.int (0 : Int32))] [])) t → Steps p.tables e below (s₁.setTop (entryFrame m #[(.ref oa), (.long qs)] 6)) t := fun t kt => by
      refine pre6 _ ?_
      show Steps p.tables e below (T3.setTop (mkF m 23 #[.val (.ref oa), .val (.long qs), .second, .val (.long (0 : Int64)), .second, .val (.int (0 : Int32))] [(.int (lcmpW x0 qs))])) _
      refine XS.ifNo X3.here hx rfl (hb hby d10_23) rfl (own_if (own_fgtL (x := x0) (y := qs) rfl rfl hc23_5).1) ?_
      refine XS.lloadN X3.here hx rfl (hb hby d10_26) rfl ?_
      refine XS.aloadN X3.here hx rfl (hb hby d10_27) rfl rfl ?_
      refine st7 _ ?_
      show Steps p.tables e below (T7.setTop (mkF m 31 #[.val (.ref oa), .val (.long qs), .second, .val (.long (0 : Int64)), .second, .val (.int (0 : Int32))] [(.ref ca), (.long (0 : Int64))])) _
      refine XS.iload X7.here hx rfl (hb hby d10_31) rfl ?_
      refine X7.laload hx (j := (0 : Int32)) (v := (.long c0)) (by rw [e7]; exact Ar8.1) (State.isArrayOf_alike hZ.alike Ar8.2.1) Ar8.2.2 hin8 hat8 (g := (mkF m 33 #[.val (.ref oa), .val (.long qs), .second, .val (.long (0 : Int64)), .second, .val (.int (0 : Int32))] [(.int (0 : Int32)), (.ref ca), (.long (0 : Int64))])) rfl rfl (hb hby d10_33) _ ?_
      refine XS.ladd X7.here hx rfl (hb hby d10_34) rfl ?_
      refine XS.lstoreN X7.here hx rfl (hb hby d10_35) rfl (l' := #[.val (.ref oa), .val (.long qs), .second, .val (.long ((0 : Int64) + c0)), .second, .val (.int (0 : Int32))]) rfl ?_
      exact kt
    obtain ⟨hd0_9, hhd0_9⟩ : ∃ z : Int64, z = ((0 : Int64) + c0) := ⟨_, rfl⟩
    have ihd0_9 : hd0_9.toInt = c0.toInt := by rw [hhd0_9]; have := rng64 c0; (first | (have : (((0 : Int64) + c0)).toInt = (0 : Int) + c0.toInt := (by have : ((((0 : Int64) + c0)).toInt - ((0 : Int) + c0.toInt)) % 18446744073709551616 = 0 := c_ladd (0 : Int64) c0; have := rng64 ((0 : Int64) + c0); omega)) | (have : ((((0 : Int64) + c0)).toInt - ((0 : Int) + c0.toInt)) % 18446744073709551616 = 0 := c_ladd (0 : Int64) c0; have := rng64 ((0 : Int64) + c0))); omega
    have pre11 : ∀ t, Steps p.tables e below (T7.setTop (mkF m 36 #[.val (.ref oa), .val (.long qs), .second, .val (.long hd0_9), .second, .val (.int (0 : Int32))] [])) t → Steps p.tables e below (s₁.setTop (entryFrame m #[(.ref oa), (.long qs)] 6)) t := by rw [hhd0_9]; exact pre10
    obtain ⟨T12, X12, e12, st12⟩ := getF X7 hx hZ hown (host := "") (Or.inl (hw _ (List.mem_of_getElem? (i := 19) rfl))) Via.refl e7 F2 (g := (mkF m 8 #[.val (.ref oa), .val (.long qs), .second, .val (.long hd0_9), .second, .val (.int (1 : Int32))] [(.ref oa), (.int (1 : Int32))])) rfl rfl (hb hby d10_8)
    have hc11_13 : (1 : Int) < (3 : Int) := by decide
    obtain ⟨T14, X14, e14, st14⟩ := getF X12 hx hZ hown (host := "") (Or.inl (hw _ (List.mem_of_getElem? (i := 10) rfl))) Via.refl e12 F0 (g := (mkF m 15 #[.val (.ref oa), .val (.long qs), .second, .val (.long hd0_9), .second, .val (.int (1 : Int32))] [(.ref oa)])) rfl rfl (hb hby d10_15)
    obtain ⟨cl15, Ar15, q15, S15, M15, H15, G15⟩ := id V0
    have hin15 : ¬ ((1 : Int32) < 0 ∨ cl15.slots.size ≤ ((1 : Int32)).toNatClampNeg) := inb_of S15 ⟨by decide, by decide⟩
    have hat15 : cl15.slots[((1 : Int32)).toNatClampNeg]? = some (.long x1) := Has.at H15 hin15 rfl
    have pre17 : ∀ t, Steps p.tables e below (T14.setTop (mkF m 23 #[.val (.ref oa), .val (.long qs), .second, .val (.long hd0_9), .second, .val (.int (1 : Int32))] [(.int (lcmpW x1 qs))])) t → Steps p.tables e below (s₁.setTop (entryFrame m #[(.ref oa), (.long qs)] 6)) t := fun t kt => by
      refine pre11 _ ?_
      refine XS.iinc X7.here hx rfl (hb hby d10_36) rfl (l' := #[.val (.ref oa), .val (.long qs), .second, .val (.long hd0_9), .second, .val (.int (1 : Int32))]) rfl ?_
      show Steps p.tables e below (T7.setTop (mkF m 39 #[.val (.ref oa), .val (.long qs), .second, .val (.long hd0_9), .second, .val (.int (1 : Int32))] [])) _
      refine XS.goto X7.here hx rfl (pc0 := 39) (pc' := 5) rfl (hb hby d10_39) (by decide) (by decide) ?_
      refine XS.iload X7.here hx rfl (hb hby d10_5) rfl ?_
      refine XS.aloadN X7.here hx rfl (hb hby d10_7) rfl rfl ?_
      refine st12 _ ?_
      refine XS.icmpNo X12.here hx rfl (hb hby d10_11) rfl (own_tlt (a := (1 : Int32)) (b := (3 : Int32)) (by decide) (by decide) hc11_13).2.1 ?_
      show Steps p.tables e below (T12.setTop (mkF m 14 #[.val (.ref oa), .val (.long qs), .second, .val (.long hd0_9), .second, .val (.int (1 : Int32))] [])) _
      refine XS.aloadN X12.here hx rfl (hb hby d10_14) rfl rfl ?_
      refine st14 _ ?_
      refine XS.iload X14.here hx rfl (hb hby d10_18) rfl ?_
      refine X14.laload hx (j := (1 : Int32)) (v := (.long x1)) (by rw [e14]; exact Ar15.1) (State.isArrayOf_alike hZ.alike Ar15.2.1) Ar15.2.2 hin15 hat15 (g := (mkF m 20 #[.val (.ref oa), .val (.long qs), .second, .val (.long hd0_9), .second, .val (.int (1 : Int32))] [(.int (1 : Int32)), (.ref ea)])) rfl rfl (hb hby d10_20) _ ?_
      refine XS.lloadN X14.here hx rfl (hb hby d10_21) rfl ?_
      show Steps p.tables e below (T14.setTop (mkF m 22 #[.val (.ref oa), .val (.long qs), .second, .val (.long hd0_9), .second, .val (.int (1 : Int32))] [(.long qs), (.long x1)])) _
      refine XS.lcmp X14.here hx rfl (hb hby d10_22) rfl ?_
      exact kt
    by_cases hc23_16 : qs.toInt < x1.toInt
    · obtain ⟨fs, hr, hrun, hended, hW, hsame⟩ := X14.leave (v := some (.long hd0_9)) (fun h => by rw [Bd.returns] at h; cases h)
      refine ⟨_, _, pre17 _ ?_, hrun, hended, _, _, rfl, ?_, ⟨_, rfl⟩, hW, hsame.mono (by decide) (by decide)⟩
      · show Steps p.tables e below (T14.setTop (mkF m 23 #[.val (.ref oa), .val (.long qs), .second, .val (.long hd0_9), .second, .val (.int (1 : Int32))] [(.int (lcmpW x1 qs))])) _
        refine XS.ifYes X14.here hx rfl (pc0 := 23) (pc' := 42) rfl (hb hby d10_23) rfl (own_if (own_tgtL (x := x1) (y := qs) rfl rfl hc23_16).1) (by decide) (by decide) ?_
        refine XS.lloadN X14.here hx rfl (hb hby d10_42) rfl ?_
        jvm_step X14.here [X14.here.top, hx, (hb hby d10_43), X14.method', Bd.returns, narrow]
        first | (intro acts; rw [hr _ acts rfl rfl rfl]) | rw [hr _ _ rfl rfl rfl]
        exact Steps.refl _
      · show Q_h3 Z oa qs ea ca kE kC x0 x1 x2 c0 c1 c2 h0 n0 _ T14.heap _
        rw [e14]
        exact ⟨_, rfl, by rw [own_fp (x := x0.toInt) (by omega)]; rw [own_fn (x := x1.toInt) (by omega)]; rw [own_fn (x := x2.toInt) (by omega)]; omega, N0, rfl⟩
    · obtain ⟨T18, X18, e18, st18⟩ := getF X14 hx hZ hown (host := "") (Or.inl (hw _ (List.mem_of_getElem? (i := 12) rfl))) Via.refl e14 F1 (g := (mkF m 28 #[.val (.ref oa), .val (.long qs), .second, .val (.long hd0_9), .second, .val (.int (1 : Int32))] [(.ref oa), (.long hd0_9)])) rfl rfl (hb hby d10_28)
      obtain ⟨cl19, Ar19, q19, S19, M19, H19, G19⟩ := id V1
      have hin19 : ¬ ((1 : Int32) < 0 ∨ cl19.slots.size ≤ ((1 : Int32)).toNatClampNeg) := inb_of S19 ⟨by decide, by decide⟩
      have hat19 : cl19.slots[((1 : Int32)).toNatClampNeg]? = some (.long c1) := Has.at H19 hin19 rfl
      have pre21 : ∀ t, Steps p.tables e below (T18.setTop (mkF m 36 #[.val (.ref oa), .val (.long qs), .second, .val (.long (hd0_9 + c1)), .second, .val (.int (1 : Int32))] [])) t → Steps p.tables e below (s₁.setTop (entryFrame m #[(.ref oa), (.long qs)] 6)) t := fun t kt => by
        refine pre17 _ ?_
        show Steps p.tables e below (T14.setTop (mkF m 23 #[.val (.ref oa), .val (.long qs), .second, .val (.long hd0_9), .second, .val (.int (1 : Int32))] [(.int (lcmpW x1 qs))])) _
        refine XS.ifNo X14.here hx rfl (hb hby d10_23) rfl (own_if (own_fgtL (x := x1) (y := qs) rfl rfl hc23_16).1) ?_
        refine XS.lloadN X14.here hx rfl (hb hby d10_26) rfl ?_
        refine XS.aloadN X14.here hx rfl (hb hby d10_27) rfl rfl ?_
        show Steps p.tables e below (T14.setTop (mkF m 28 #[.val (.ref oa), .val (.long qs), .second, .val (.long hd0_9), .second, .val (.int (1 : Int32))] [(.ref oa), (.long hd0_9)])) _
        refine st18 _ ?_
        refine XS.iload X18.here hx rfl (hb hby d10_31) rfl ?_
        refine X18.laload hx (j := (1 : Int32)) (v := (.long c1)) (by rw [e18]; exact Ar19.1) (State.isArrayOf_alike hZ.alike Ar19.2.1) Ar19.2.2 hin19 hat19 (g := (mkF m 33 #[.val (.ref oa), .val (.long qs), .second, .val (.long hd0_9), .second, .val (.int (1 : Int32))] [(.int (1 : Int32)), (.ref ca), (.long hd0_9)])) rfl rfl (hb hby d10_33) _ ?_
        refine XS.ladd X18.here hx rfl (hb hby d10_34) rfl ?_
        refine XS.lstoreN X18.here hx rfl (hb hby d10_35) rfl (l' := #[.val (.ref oa), .val (.long qs), .second, .val (.long (hd0_9 + c1)), .second, .val (.int (1 : Int32))]) rfl ?_
        exact kt
      obtain ⟨hd1_20, hhd1_20⟩ : ∃ z : Int64, z = (hd0_9 + c1) := ⟨_, rfl⟩
      have ihd1_20 : hd1_20.toInt = c0.toInt + c1.toInt := by rw [hhd1_20]; have := rng64 hd0_9; have := rng64 c1; (first | (have : ((hd0_9 + c1)).toInt = hd0_9.toInt + c1.toInt := (by have : (((hd0_9 + c1)).toInt - (hd0_9.toInt + c1.toInt)) % 18446744073709551616 = 0 := c_ladd hd0_9 c1; have := rng64 (hd0_9 + c1); omega)) | (have : (((hd0_9 + c1)).toInt - (hd0_9.toInt + c1.toInt)) % 18446744073709551616 = 0 := c_ladd hd0_9 c1; have := rng64 (hd0_9 + c1))); omega
      have pre22 : ∀ t, Steps p.tables e below (T18.setTop (mkF m 36 #[.val (.ref oa), .val (.long qs), .second, .val (.long hd1_20), .second, .val (.int (1 : Int32))] [])) t → Steps p.tables e below (s₁.setTop (entryFrame m #[(.ref oa), (.long qs)] 6)) t := by rw [hhd1_20]; exact pre21
      obtain ⟨T23, X23, e23, st23⟩ := getF X18 hx hZ hown (host := "") (Or.inl (hw _ (List.mem_of_getElem? (i := 19) rfl))) Via.refl e18 F2 (g := (mkF m 8 #[.val (.ref oa), .val (.long qs), .second, .val (.long hd1_20), .second, .val (.int (2 : Int32))] [(.ref oa), (.int (2 : Int32))])) rfl rfl (hb hby d10_8)
      have hc11_24 : (2 : Int) < (3 : Int) := by decide
      obtain ⟨T25, X25, e25, st25⟩ := getF X23 hx hZ hown (host := "") (Or.inl (hw _ (List.mem_of_getElem? (i := 10) rfl))) Via.refl e23 F0 (g := (mkF m 15 #[.val (.ref oa), .val (.long qs), .second, .val (.long hd1_20), .second, .val (.int (2 : Int32))] [(.ref oa)])) rfl rfl (hb hby d10_15)
      obtain ⟨cl26, Ar26, q26, S26, M26, H26, G26⟩ := id V0
      have hin26 : ¬ ((2 : Int32) < 0 ∨ cl26.slots.size ≤ ((2 : Int32)).toNatClampNeg) := inb_of S26 ⟨by decide, by decide⟩
      have hat26 : cl26.slots[((2 : Int32)).toNatClampNeg]? = some (.long x2) := Has.at H26 hin26 rfl
      have pre28 : ∀ t, Steps p.tables e below (T25.setTop (mkF m 23 #[.val (.ref oa), .val (.long qs), .second, .val (.long hd1_20), .second, .val (.int (2 : Int32))] [(.int (lcmpW x2 qs))])) t → Steps p.tables e below (s₁.setTop (entryFrame m #[(.ref oa), (.long qs)] 6)) t := fun t kt => by
        refine pre22 _ ?_
        show Steps p.tables e below (T18.setTop (mkF m 36 #[.val (.ref oa), .val (.long qs), .second, .val (.long hd1_20), .second, .val (.int (1 : Int32))] [])) _
        refine XS.iinc X18.here hx rfl (hb hby d10_36) rfl (l' := #[.val (.ref oa), .val (.long qs), .second, .val (.long hd1_20), .second, .val (.int (2 : Int32))]) rfl ?_
        refine XS.goto X18.here hx rfl (pc0 := 39) (pc' := 5) rfl (hb hby d10_39) (by decide) (by decide) ?_
        refine XS.iload X18.here hx rfl (hb hby d10_5) rfl ?_
        refine XS.aloadN X18.here hx rfl (hb hby d10_7) rfl rfl ?_
        refine st23 _ ?_
        show Steps p.tables e below (T23.setTop (mkF m 11 #[.val (.ref oa), .val (.long qs), .second, .val (.long hd1_20), .second, .val (.int (2 : Int32))] [(.int (3 : Int32)), (.int (2 : Int32))])) _
        refine XS.icmpNo X23.here hx rfl (hb hby d10_11) rfl (own_tlt (a := (2 : Int32)) (b := (3 : Int32)) (by decide) (by decide) hc11_24).2.1 ?_
        refine XS.aloadN X23.here hx rfl (hb hby d10_14) rfl rfl ?_
        refine st25 _ ?_
        refine XS.iload X25.here hx rfl (hb hby d10_18) rfl ?_
        refine X25.laload hx (j := (2 : Int32)) (v := (.long x2)) (by rw [e25]; exact Ar26.1) (State.isArrayOf_alike hZ.alike Ar26.2.1) Ar26.2.2 hin26 hat26 (g := (mkF m 20 #[.val (.ref oa), .val (.long qs), .second, .val (.long hd1_20), .second, .val (.int (2 : Int32))] [(.int (2 : Int32)), (.ref ea)])) rfl rfl (hb hby d10_20) _ ?_
        show Steps p.tables e below (T25.setTop (mkF m 21 #[.val (.ref oa), .val (.long qs), .second, .val (.long hd1_20), .second, .val (.int (2 : Int32))] [(.long x2)])) _
        refine XS.lloadN X25.here hx rfl (hb hby d10_21) rfl ?_
        refine XS.lcmp X25.here hx rfl (hb hby d10_22) rfl ?_
        exact kt
      by_cases hc23_27 : qs.toInt < x2.toInt
      · obtain ⟨fs, hr, hrun, hended, hW, hsame⟩ := X25.leave (v := some (.long hd1_20)) (fun h => by rw [Bd.returns] at h; cases h)
        refine ⟨_, _, pre28 _ ?_, hrun, hended, _, _, rfl, ?_, ⟨_, rfl⟩, hW, hsame.mono (by decide) (by decide)⟩
        · show Steps p.tables e below (T25.setTop (mkF m 23 #[.val (.ref oa), .val (.long qs), .second, .val (.long hd1_20), .second, .val (.int (2 : Int32))] [(.int (lcmpW x2 qs))])) _
          refine XS.ifYes X25.here hx rfl (pc0 := 23) (pc' := 42) rfl (hb hby d10_23) rfl (own_if (own_tgtL (x := x2) (y := qs) rfl rfl hc23_27).1) (by decide) (by decide) ?_
          refine XS.lloadN X25.here hx rfl (hb hby d10_42) rfl ?_
          show Steps p.tables e below (T25.setTop (mkF m 43 #[.val (.ref oa), .val (.long qs), .second, .val (.long hd1_20), .second, .val (.int (2 : Int32))] [(.long hd1_20)])) _
          jvm_step X25.here [X25.here.top, hx, (hb hby d10_43), X25.method', Bd.returns, narrow]
          first | (intro acts; rw [hr _ acts rfl rfl rfl]) | rw [hr _ _ rfl rfl rfl]
          exact Steps.refl _
        · show Q_h3 Z oa qs ea ca kE kC x0 x1 x2 c0 c1 c2 h0 n0 _ T25.heap _
          rw [e25]
          exact ⟨_, rfl, by rw [own_fp (x := x0.toInt) (by omega)]; rw [own_fp (x := x1.toInt) (by omega)]; rw [own_fn (x := x2.toInt) (by omega)]; omega, N0, rfl⟩
      · obtain ⟨T29, X29, e29, st29⟩ := getF X25 hx hZ hown (host := "") (Or.inl (hw _ (List.mem_of_getElem? (i := 12) rfl))) Via.refl e25 F1 (g := (mkF m 28 #[.val (.ref oa), .val (.long qs), .second, .val (.long hd1_20), .second, .val (.int (2 : Int32))] [(.ref oa), (.long hd1_20)])) rfl rfl (hb hby d10_28)
        obtain ⟨cl30, Ar30, q30, S30, M30, H30, G30⟩ := id V1
        have hin30 : ¬ ((2 : Int32) < 0 ∨ cl30.slots.size ≤ ((2 : Int32)).toNatClampNeg) := inb_of S30 ⟨by decide, by decide⟩
        have hat30 : cl30.slots[((2 : Int32)).toNatClampNeg]? = some (.long c2) := Has.at H30 hin30 rfl
        have pre32 : ∀ t, Steps p.tables e below (T29.setTop (mkF m 36 #[.val (.ref oa), .val (.long qs), .second, .val (.long (hd1_20 + c2)), .second, .val (.int (2 : Int32))] [])) t → Steps p.tables e below (s₁.setTop (entryFrame m #[(.ref oa), (.long qs)] 6)) t := fun t kt => by
          refine pre28 _ ?_
          show Steps p.tables e below (T25.setTop (mkF m 23 #[.val (.ref oa), .val (.long qs), .second, .val (.long hd1_20), .second, .val (.int (2 : Int32))] [(.int (lcmpW x2 qs))])) _
          refine XS.ifNo X25.here hx rfl (hb hby d10_23) rfl (own_if (own_fgtL (x := x2) (y := qs) rfl rfl hc23_27).1) ?_
          refine XS.lloadN X25.here hx rfl (hb hby d10_26) rfl ?_
          show Steps p.tables e below (T25.setTop (mkF m 27 #[.val (.ref oa), .val (.long qs), .second, .val (.long hd1_20), .second, .val (.int (2 : Int32))] [(.long hd1_20)])) _
          refine XS.aloadN X25.here hx rfl (hb hby d10_27) rfl rfl ?_
          refine st29 _ ?_
          refine XS.iload X29.here hx rfl (hb hby d10_31) rfl ?_
          refine X29.laload hx (j := (2 : Int32)) (v := (.long c2)) (by rw [e29]; exact Ar30.1) (State.isArrayOf_alike hZ.alike Ar30.2.1) Ar30.2.2 hin30 hat30 (g := (mkF m 33 #[.val (.ref oa), .val (.long qs), .second, .val (.long hd1_20), .second, .val (.int (2 : Int32))] [(.int (2 : Int32)), (.ref ca), (.long hd1_20)])) rfl rfl (hb hby d10_33) _ ?_
          refine XS.ladd X29.here hx rfl (hb hby d10_34) rfl ?_
          show Steps p.tables e below (T29.setTop (mkF m 35 #[.val (.ref oa), .val (.long qs), .second, .val (.long hd1_20), .second, .val (.int (2 : Int32))] [(.long (hd1_20 + c2))])) _
          refine XS.lstoreN X29.here hx rfl (hb hby d10_35) rfl (l' := #[.val (.ref oa), .val (.long qs), .second, .val (.long (hd1_20 + c2)), .second, .val (.int (2 : Int32))]) rfl ?_
          exact kt
        obtain ⟨hd2_31, hhd2_31⟩ : ∃ z : Int64, z = (hd1_20 + c2) := ⟨_, rfl⟩
        have ihd2_31 : hd2_31.toInt = c0.toInt + c1.toInt + c2.toInt := by rw [hhd2_31]; have := rng64 hd1_20; have := rng64 c2; (first | (have : ((hd1_20 + c2)).toInt = hd1_20.toInt + c2.toInt := (by have : (((hd1_20 + c2)).toInt - (hd1_20.toInt + c2.toInt)) % 18446744073709551616 = 0 := c_ladd hd1_20 c2; have := rng64 (hd1_20 + c2); omega)) | (have : (((hd1_20 + c2)).toInt - (hd1_20.toInt + c2.toInt)) % 18446744073709551616 = 0 := c_ladd hd1_20 c2; have := rng64 (hd1_20 + c2))); omega
        have pre33 : ∀ t, Steps p.tables e below (T29.setTop (mkF m 36 #[.val (.ref oa), .val (.long qs), .second, .val (.long hd2_31), .second, .val (.int (2 : Int32))] [])) t → Steps p.tables e below (s₁.setTop (entryFrame m #[(.ref oa), (.long qs)] 6)) t := by rw [hhd2_31]; exact pre32
        obtain ⟨T34, X34, e34, st34⟩ := getF X29 hx hZ hown (host := "") (Or.inl (hw _ (List.mem_of_getElem? (i := 19) rfl))) Via.refl e29 F2 (g := (mkF m 8 #[.val (.ref oa), .val (.long qs), .second, .val (.long hd2_31), .second, .val (.int (3 : Int32))] [(.ref oa), (.int (3 : Int32))])) rfl rfl (hb hby d10_8)
        have hc11_35 : ¬ ((3 : Int) < (3 : Int)) := by decide
        obtain ⟨fs, hr, hrun, hended, hW, hsame⟩ := X34.leave (v := some (.long hd2_31)) (fun h => by rw [Bd.returns] at h; cases h)
        refine ⟨_, _, pre33 _ ?_, hrun, hended, _, _, rfl, ?_, ⟨_, rfl⟩, hW, hsame.mono (by decide) (by decide)⟩
        · refine XS.iinc X29.here hx rfl (hb hby d10_36) rfl (l' := #[.val (.ref oa), .val (.long qs), .second, .val (.long hd2_31), .second, .val (.int (3 : Int32))]) rfl ?_
          refine XS.goto X29.here hx rfl (pc0 := 39) (pc' := 5) rfl (hb hby d10_39) (by decide) (by decide) ?_
          refine XS.iload X29.here hx rfl (hb hby d10_5) rfl ?_
          refine XS.aloadN X29.here hx rfl (hb hby d10_7) rfl rfl ?_
          show Steps p.tables e below (T29.setTop (mkF m 8 #[.val (.ref oa), .val (.long qs), .second, .val (.long hd2_31), .second, .val (.int (3 : Int32))] [(.ref oa), (.int (3 : Int32))])) _
          refine st34 _ ?_
          refine XS.icmpYes X34.here hx rfl (pc0 := 11) (pc' := 42) rfl (hb hby d10_11) rfl (own_flt (a := (3 : Int32)) (b := (3 : Int32)) (by decide) (by decide) hc11_35).2.1 (by decide) (by decide) ?_
          refine XS.lloadN X34.here hx rfl (hb hby d10_42) rfl ?_
          jvm_step X34.here [X34.here.top, hx, (hb hby d10_43), X34.method', Bd.returns, narrow]
          first | (intro acts; rw [hr _ acts rfl rfl rfl]) | rw [hr _ _ rfl rfl rfl]
          exact Steps.refl _
        · show Q_h3 Z oa qs ea ca kE kC x0 x1 x2 c0 c1 c2 h0 n0 _ T34.heap _
          rw [e34]
          exact ⟨_, rfl, by rw [own_fp (x := x0.toInt) (by omega)]; rw [own_fp (x := x1.toInt) (by omega)]; rw [own_fp (x := x2.toInt) (by omega)]; omega, N0, rfl⟩
theorem d7_0 : decode prog_20_method_5_code 0 = .ok (.lconst 0, 1) := by decide +kernel
theorem d7_1 : decode prog_20_method_5_code 1 = .ok (.lstore_n 3, 1) := by decide +kernel
theorem d7_2 : decode prog_20_method_5_code 2 = .ok (.iconst 0, 1) := by decide +kernel
theorem d7_3 : decode prog_20_method_5_code 3 = .ok (.istore 5, 2) := by decide +kernel
theorem d7_5 : decode prog_20_method_5_code 5 = .ok (.iload 5, 2) := by decide +kernel
theorem d7_7 : decode prog_20_method_5_code 7 = .ok (.aload_n 0, 1) := by decide +kernel
theorem d7_8 : decode prog_20_method_5_code 8 = .ok (.getfield 16, 3) := by decide +kernel
theorem d7_11 : decode prog_20_method_5_code 11 = .ok (.if_icmp .ge 28, 3) := by decide +kernel
theorem d7_39 : decode prog_20_method_5_code 39 = .ok (.aload_n 0, 1) := by decide +kernel
theorem d7_40 : decode prog_20_method_5_code 40 = .ok (.getfield 16, 3) := by decide +kernel
theorem d7_43 : decode prog_20_method_5_code 43 = .ok (.ireturn, 1) := by decide +kernel
theorem ef_rm_fr0 (m : MethodId) (x0 : Addr) (x1 : Int64) : entryFrame m #[(.ref x0), (.long x1)] 6 = mkF m 0 #[.val (.ref x0), .val (.long x1), .second, .unset, .unset, .unset] [] := by first | (simp [entryFrame, mkF, argsToLocals, Value.category]; done) | rfl
def Q_fr0 (Z : State) (oa : Addr) (qs : Int64) (ea : Addr) (ca : Addr) (kE : ClassId) (kC : ClassId) (h0 : Heap) (n0 : Nat) (v : Option Value) (h : Heap) (L : List Loc) : Prop := ∃ z : Int32, v = some (.int z) ∧ ((z = (0 : Int32))) ∧ Fr n0 L ∧ h = h0
set_option maxRecDepth 65536 in
set_option maxHeartbeats 40000000 in
theorem rm_fr0 (l : Launch) (Z : State) (a0 : Array Value) (hw : ∀ d ∈ tables_1, d.before a0 Z = true) (ws : List Jvm.Cond) (oa : Addr) (qs : Int64) (ea : Addr) (ca : Addr) (kE : ClassId) (kC : ClassId) (h0 : Heap) (n0 : Nat) (Z0 : n0 ≤ h0.size) (Ea : Exa Z h0 oa "com/example/foreslot/foreslot/CountsByEnd") (F0 : Fld Z h0 oa "com/example/foreslot/foreslot/CountsByEnd" "ends" "[J" (.ref ea)) (F1 : Fld Z h0 oa "com/example/foreslot/foreslot/CountsByEnd" "counts" "[J" (.ref ca)) (F2 : Fld Z h0 oa "com/example/foreslot/foreslot/CountsByEnd" "size" "I" (.int (0 : Int32))) (V0 : Arv Z h0 ea kE .long (16 : Int32) [(.long (0 : Int64)), (.long (0 : Int64)), (.long (0 : Int64)), (.long (0 : Int64))] (.long (0 : Int64))) (V1 : Arv Z h0 ca kC .long (16 : Int32) [(.long (0 : Int64)), (.long (0 : Int64)), (.long (0 : Int64)), (.long (0 : Int64))] (.long (0 : Int64))) (kt : 0 ≤ 100000) :
    MetFree l (⟨"com/example/foreslot/foreslot/CountsByEnd", "firstReaching", "(J)I"⟩ : MethodName) (head1 (Jvm.Cond.code (⟨"com/example/foreslot/foreslot/CountsByEnd", "firstReaching", "(J)I"⟩ : MethodName) prog_20_method_5_code 6 (some .int) :: ws) ({ frames := 0, cells := 0, slots := 0, locals := 0 } : Room)) (fun a U => a = #[(.ref oa), (.long qs)] ∧ Z.Warmed39 U.vm ∧ U.heap = h0) (fun _ _ _ _ _ => True) (fun _ U o U' => ∃ v L, o = .returned v ∧ Q_fr0 Z oa qs ea ca kE kC h0 n0 v U'.heap L ∧ FrameEnd U o U' L ({ frames := 0, cells := 0, slots := 0, locals := 0 } : Room).cells ({ frames := 0, cells := 0, slots := 0, locals := 0 } : Room).slots) := by
  refine MetFree.of_bodySF (plainFor_of_name pn_1) hisR ?_
  intro p e s m args below meth c s₁ Bd hml0 hP hK
  obtain ⟨rfl, hZ, hh⟩ := hP
  have hx := Bd.exec
  have hby := Bd.bytes
  have hml : c.maxLocals = 6 := hml0
  have hown : s.vm.findClass "com/example/foreslot/foreslot/CountsByEnd" = some m.cls := findClass_of_methodNamed Bd.named
  have hnm := (name_of_methodNamed Bd.named Bd.method).1
  have X0 : Stand p l e ({ frames := 0, cells := 0, slots := 0, locals := 0 } : Room) s m #[(.ref oa), (.long qs)] below meth c s₁ [] 0 0 := Stand.of_body Bd
  have e0 : s₁.heap = h0 := by rw [← hh, Bd.state]; rfl
  have N0 := Fr.nil n0
  have pre0 : ∀ t, Steps p.tables e below (s₁.setTop (mkF m 0 #[.val (.ref oa), .val (.long qs), .second, .unset, .unset, .unset] [])) t → Steps p.tables e below (s₁.setTop (entryFrame m #[(.ref oa), (.long qs)] 6)) t := fun t k => castTop (ef_rm_fr0 m oa qs) k
  obtain ⟨T1, X1, e1, st1⟩ := getF X0 hx hZ hown (host := "") (Or.inl (hw _ (List.mem_of_getElem? (i := 19) rfl))) Via.refl e0 F2 (g := (mkF m 8 #[.val (.ref oa), .val (.long qs), .second, .val (.long (0 : Int64)), .second, .val (.int (0 : Int32))] [(.ref oa), (.int (0 : Int32))])) rfl rfl (hb hby d7_8)
  have hc11_2 : ¬ ((0 : Int) < (0 : Int)) := by decide
  obtain ⟨T3, X3, e3, st3⟩ := getF X1 hx hZ hown (host := "") (Or.inl (hw _ (List.mem_of_getElem? (i := 19) rfl))) Via.refl e1 F2 (g := (mkF m 40 #[.val (.ref oa), .val (.long qs), .second, .val (.long (0 : Int64)), .second, .val (.int (0 : Int32))] [(.ref oa)])) rfl rfl (hb hby d7_40)
  obtain ⟨fs, hr, hrun, hended, hW, hsame⟩ := X3.leave (v := some (.int (0 : Int32))) (fun h => by rw [Bd.returns] at h; cases h)
  refine ⟨_, _, pre0 _ ?_, hrun, hended, _, _, rfl, ?_, ⟨_, rfl⟩, hW, hsame.mono (by decide) (by decide)⟩
  · refine XS.lconst X0.here hx rfl (hb hby d7_0) ?_
    refine XS.lstoreN X0.here hx rfl (hb hby d7_1) rfl (l' := #[.val (.ref oa), .val (.long qs), .second, .val (.long (0 : Int64)), .second, .unset]) rfl ?_
    refine XS.iconst X0.here hx rfl (hb hby d7_2) ?_
    refine XS.istore X0.here hx rfl (hb hby d7_3) rfl (l' := #[.val (.ref oa), .val (.long qs), .second, .val (.long (0 : Int64)), .second, .val (.int (0 : Int32))]) rfl ?_
    show Steps p.tables e below (s₁.setTop (mkF m 5 #[.val (.ref oa), .val (.long qs), .second, .val (.long (0 : Int64)), .second, .val (.int (0 : Int32))] [])) _
    refine XS.iload X0.here hx rfl (hb hby d7_5) rfl ?_
    refine XS.aloadN X0.here hx rfl (hb hby d7_7) rfl rfl ?_
    refine st1 _ ?_
    refine XS.icmpYes X1.here hx rfl (pc0 := 11) (pc' := 39) rfl (hb hby d7_11) rfl (own_flt (a := (0 : Int32)) (b := (0 : Int32)) (by decide) (by decide) hc11_2).2.1 (by decide) (by decide) ?_
    refine XS.aloadN X1.here hx rfl (hb hby d7_39) rfl rfl ?_
    show Steps p.tables e below (T1.setTop (mkF m 40 #[.val (.ref oa), .val (.long qs), .second, .val (.long (0 : Int64)), .second, .val (.int (0 : Int32))] [(.ref oa)])) _
    refine st3 _ ?_
    exact retI X3 hx Bd.returns (hb hby d7_43) hr
  · show Q_fr0 Z oa qs ea ca kE kC h0 n0 _ T3.heap _
    rw [e3]
    exact ⟨_, rfl, rfl, N0, rfl⟩
theorem d8_0 : decode prog_20_method_6_code 0 = .ok (.aload_n 0, 1) := by decide +kernel
theorem d8_1 : decode prog_20_method_6_code 1 = .ok (.getfield 16, 3) := by decide +kernel
theorem d8_4 : decode prog_20_method_6_code 4 = .ok (.ireturn, 1) := by decide +kernel
theorem ef_rm_sz0 (m : MethodId) (x0 : Addr) : entryFrame m #[(.ref x0)] 1 = mkF m 0 #[.val (.ref x0)] [] := by first | (simp [entryFrame, mkF, argsToLocals, Value.category]; done) | rfl
def Q_sz0 (Z : State) (oa : Addr) (ea : Addr) (ca : Addr) (kE : ClassId) (kC : ClassId) (h0 : Heap) (n0 : Nat) (v : Option Value) (h : Heap) (L : List Loc) : Prop := ∃ z : Int32, v = some (.int z) ∧ (z = (0 : Int32)) ∧ Fr n0 L ∧ h = h0
set_option maxRecDepth 65536 in
set_option maxHeartbeats 40000000 in
theorem rm_sz0 (l : Launch) (Z : State) (a0 : Array Value) (hw : ∀ d ∈ tables_1, d.before a0 Z = true) (ws : List Jvm.Cond) (oa : Addr) (ea : Addr) (ca : Addr) (kE : ClassId) (kC : ClassId) (h0 : Heap) (n0 : Nat) (Z0 : n0 ≤ h0.size) (Ea : Exa Z h0 oa "com/example/foreslot/foreslot/CountsByEnd") (F0 : Fld Z h0 oa "com/example/foreslot/foreslot/CountsByEnd" "ends" "[J" (.ref ea)) (F1 : Fld Z h0 oa "com/example/foreslot/foreslot/CountsByEnd" "counts" "[J" (.ref ca)) (F2 : Fld Z h0 oa "com/example/foreslot/foreslot/CountsByEnd" "size" "I" (.int (0 : Int32))) (V0 : Arv Z h0 ea kE .long (16 : Int32) [(.long (0 : Int64)), (.long (0 : Int64)), (.long (0 : Int64)), (.long (0 : Int64))] (.long (0 : Int64))) (V1 : Arv Z h0 ca kC .long (16 : Int32) [(.long (0 : Int64)), (.long (0 : Int64)), (.long (0 : Int64)), (.long (0 : Int64))] (.long (0 : Int64))) :
    MetFree l (⟨"com/example/foreslot/foreslot/CountsByEnd", "size", "()I"⟩ : MethodName) (head1 (Jvm.Cond.code (⟨"com/example/foreslot/foreslot/CountsByEnd", "size", "()I"⟩ : MethodName) prog_20_method_6_code 1 (some .int) :: ws) ({ frames := 0, cells := 0, slots := 0, locals := 0 } : Room)) (fun a U => a = #[(.ref oa)] ∧ Z.Warmed39 U.vm ∧ U.heap = h0) (fun _ _ _ _ _ => True) (fun _ U o U' => ∃ v L, o = .returned v ∧ Q_sz0 Z oa ea ca kE kC h0 n0 v U'.heap L ∧ FrameEnd U o U' L ({ frames := 0, cells := 0, slots := 0, locals := 0 } : Room).cells ({ frames := 0, cells := 0, slots := 0, locals := 0 } : Room).slots) := by
  refine MetFree.of_bodySF (plainFor_of_name pn_1) hisR ?_
  intro p e s m args below meth c s₁ Bd hml0 hP hK
  obtain ⟨rfl, hZ, hh⟩ := hP
  have hx := Bd.exec
  have hby := Bd.bytes
  have hml : c.maxLocals = 1 := hml0
  have hown : s.vm.findClass "com/example/foreslot/foreslot/CountsByEnd" = some m.cls := findClass_of_methodNamed Bd.named
  have hnm := (name_of_methodNamed Bd.named Bd.method).1
  have X0 : Stand p l e ({ frames := 0, cells := 0, slots := 0, locals := 0 } : Room) s m #[(.ref oa)] below meth c s₁ [] 0 0 := Stand.of_body Bd
  have e0 : s₁.heap = h0 := by rw [← hh, Bd.state]; rfl
  have N0 := Fr.nil n0
  have pre0 : ∀ t, Steps p.tables e below (s₁.setTop (mkF m 0 #[.val (.ref oa)] [])) t → Steps p.tables e below (s₁.setTop (entryFrame m #[(.ref oa)] 1)) t := fun t k => castTop (ef_rm_sz0 m oa) k
  obtain ⟨T1, X1, e1, st1⟩ := getF X0 hx hZ hown (host := "") (Or.inl (hw _ (List.mem_of_getElem? (i := 19) rfl))) Via.refl e0 F2 (g := (mkF m 1 #[.val (.ref oa)] [(.ref oa)])) rfl rfl (hb hby d8_1)
  obtain ⟨fs, hr, hrun, hended, hW, hsame⟩ := X1.leave (v := some (.int (0 : Int32))) (fun h => by rw [Bd.returns] at h; cases h)
  refine ⟨_, _, pre0 _ ?_, hrun, hended, _, _, rfl, ?_, ⟨_, rfl⟩, hW, hsame.mono (by decide) (by decide)⟩
  · refine XS.aloadN X0.here hx rfl (hb hby d8_0) rfl rfl ?_
    refine st1 _ ?_
    exact retI X1 hx Bd.returns (hb hby d8_4) hr
  · show Q_sz0 Z oa ea ca kE kC h0 n0 _ T1.heap _
    rw [e1]
    exact ⟨_, rfl, rfl, N0, rfl⟩
theorem d7_14 : decode prog_20_method_5_code 14 = .ok (.lload_n 3, 1) := by decide +kernel
theorem d7_15 : decode prog_20_method_5_code 15 = .ok (.aload_n 0, 1) := by decide +kernel
theorem d7_16 : decode prog_20_method_5_code 16 = .ok (.getfield 13, 3) := by decide +kernel
theorem d7_19 : decode prog_20_method_5_code 19 = .ok (.iload 5, 2) := by decide +kernel
theorem d7_21 : decode prog_20_method_5_code 21 = .ok (.laload, 1) := by decide +kernel
theorem d7_22 : decode prog_20_method_5_code 22 = .ok (.ladd, 1) := by decide +kernel
theorem d7_23 : decode prog_20_method_5_code 23 = .ok (.lstore_n 3, 1) := by decide +kernel
theorem d7_24 : decode prog_20_method_5_code 24 = .ok (.lload_n 3, 1) := by decide +kernel
theorem d7_25 : decode prog_20_method_5_code 25 = .ok (.lload_n 1, 1) := by decide +kernel
theorem d7_26 : decode prog_20_method_5_code 26 = .ok (.lcmp, 1) := by decide +kernel
theorem d7_27 : decode prog_20_method_5_code 27 = .ok (.ifCond .lt 6, 3) := by decide +kernel
theorem d7_30 : decode prog_20_method_5_code 30 = .ok (.iload 5, 2) := by decide +kernel
theorem d7_32 : decode prog_20_method_5_code 32 = .ok (.ireturn, 1) := by decide +kernel
theorem d7_33 : decode prog_20_method_5_code 33 = .ok (.iinc 5 1, 3) := by decide +kernel
theorem d7_36 : decode prog_20_method_5_code 36 = .ok (.goto (-31), 3) := by decide +kernel
theorem ef_rm_fr1 (m : MethodId) (x0 : Addr) (x1 : Int64) : entryFrame m #[(.ref x0), (.long x1)] 6 = mkF m 0 #[.val (.ref x0), .val (.long x1), .second, .unset, .unset, .unset] [] := by first | (simp [entryFrame, mkF, argsToLocals, Value.category]; done) | rfl
def Q_fr1 (Z : State) (oa : Addr) (qs : Int64) (ea : Addr) (ca : Addr) (kE : ClassId) (kC : ClassId) (x0 : Int64) (c0 : Int64) (h0 : Heap) (n0 : Nat) (v : Option Value) (h : Heap) (L : List Loc) : Prop := ∃ z : Int32, v = some (.int z) ∧ ((z = (0 : Int32) ∧ qs.toInt ≤ c0.toInt) ∨ (z = (1 : Int32) ∧ c0.toInt < qs.toInt)) ∧ Fr n0 L ∧ h = h0
set_option maxRecDepth 65536 in
set_option maxHeartbeats 40000000 in
theorem rm_fr1 (l : Launch) (Z : State) (a0 : Array Value) (hw : ∀ d ∈ tables_1, d.before a0 Z = true) (ws : List Jvm.Cond) (oa : Addr) (qs : Int64) (ea : Addr) (ca : Addr) (kE : ClassId) (kC : ClassId) (x0 : Int64) (c0 : Int64) (h0 : Heap) (n0 : Nat) (Z0 : n0 ≤ h0.size) (Ea : Exa Z h0 oa "com/example/foreslot/foreslot/CountsByEnd") (F0 : Fld Z h0 oa "com/example/foreslot/foreslot/CountsByEnd" "ends" "[J" (.ref ea)) (F1 : Fld Z h0 oa "com/example/foreslot/foreslot/CountsByEnd" "counts" "[J" (.ref ca)) (F2 : Fld Z h0 oa "com/example/foreslot/foreslot/CountsByEnd" "size" "I" (.int (1 : Int32))) (V0 : Arv Z h0 ea kE .long (16 : Int32) [(.long x0), (.long (0 : Int64)), (.long (0 : Int64)), (.long (0 : Int64))] (.long (0 : Int64))) (V1 : Arv Z h0 ca kC .long (16 : Int32) [(.long c0), (.long (0 : Int64)), (.long (0 : Int64)), (.long (0 : Int64))] (.long (0 : Int64))) (kc0 : 1 ≤ c0.toInt) (kt : c0.toInt ≤ 100000) :
    MetFree l (⟨"com/example/foreslot/foreslot/CountsByEnd", "firstReaching", "(J)I"⟩ : MethodName) (head1 (Jvm.Cond.code (⟨"com/example/foreslot/foreslot/CountsByEnd", "firstReaching", "(J)I"⟩ : MethodName) prog_20_method_5_code 6 (some .int) :: ws) ({ frames := 0, cells := 0, slots := 0, locals := 0 } : Room)) (fun a U => a = #[(.ref oa), (.long qs)] ∧ Z.Warmed39 U.vm ∧ U.heap = h0) (fun _ _ _ _ _ => True) (fun _ U o U' => ∃ v L, o = .returned v ∧ Q_fr1 Z oa qs ea ca kE kC x0 c0 h0 n0 v U'.heap L ∧ FrameEnd U o U' L ({ frames := 0, cells := 0, slots := 0, locals := 0 } : Room).cells ({ frames := 0, cells := 0, slots := 0, locals := 0 } : Room).slots) := by
  refine MetFree.of_bodySF (plainFor_of_name pn_1) hisR ?_
  intro p e s m args below meth c s₁ Bd hml0 hP hK
  obtain ⟨rfl, hZ, hh⟩ := hP
  have hx := Bd.exec
  have hby := Bd.bytes
  have hml : c.maxLocals = 6 := hml0
  have hown : s.vm.findClass "com/example/foreslot/foreslot/CountsByEnd" = some m.cls := findClass_of_methodNamed Bd.named
  have hnm := (name_of_methodNamed Bd.named Bd.method).1
  have X0 : Stand p l e ({ frames := 0, cells := 0, slots := 0, locals := 0 } : Room) s m #[(.ref oa), (.long qs)] below meth c s₁ [] 0 0 := Stand.of_body Bd
  have e0 : s₁.heap = h0 := by rw [← hh, Bd.state]; rfl
  have N0 := Fr.nil n0
  have pre0 : ∀ t, Steps p.tables e below (s₁.setTop (mkF m 0 #[.val (.ref oa), .val (.long qs), .second, .unset, .unset, .unset] [])) t → Steps p.tables e below (s₁.setTop (entryFrame m #[(.ref oa), (.long qs)] 6)) t := fun t k => castTop (ef_rm_fr1 m oa qs) k
  obtain ⟨T1, X1, e1, st1⟩ := getF X0 hx hZ hown (host := "") (Or.inl (hw _ (List.mem_of_getElem? (i := 19) rfl))) Via.refl e0 F2 (g := (mkF m 8 #[.val (.ref oa), .val (.long qs), .second, .val (.long (0 : Int64)), .second, .val (.int (0 : Int32))] [(.ref oa), (.int (0 : Int32))])) rfl rfl (hb hby d7_8)
  have hc11_2 : (0 : Int) < (1 : Int) := by decide
  obtain ⟨T3, X3, e3, st3⟩ := getF X1 hx hZ hown (host := "") (Or.inl (hw _ (List.mem_of_getElem? (i := 12) rfl))) Via.refl e1 F1 (g := (mkF m 16 #[.val (.ref oa), .val (.long qs), .second, .val (.long (0 : Int64)), .second, .val (.int (0 : Int32))] [(.ref oa), (.long (0 : Int64))])) rfl rfl (hb hby d7_16)
  obtain ⟨cl4, Ar4, q4, S4, M4, H4, G4⟩ := id V1
  have hin4 : ¬ ((0 : Int32) < 0 ∨ cl4.slots.size ≤ ((0 : Int32)).toNatClampNeg) := inb_of S4 ⟨by decide, by decide⟩
  have hat4 : cl4.slots[((0 : Int32)).toNatClampNeg]? = some (.long c0) := Has.at H4 hin4 rfl
  have pre6 : ∀ t, Steps p.tables e below (T3.setTop (mkF m 24 #[.val (.ref oa), .val (.long qs), .second, .val (.long ((0 : Int64) + c0)), .second, .val (.int (0 : Int32))] [])) t → Steps p.tables e below (s₁.setTop (entryFrame m #[(.ref oa), (.long qs)] 6)) t := fun t kt => by
    refine pre0 _ ?_
    refine XS.lconst X0.here hx rfl (hb hby d7_0) ?_
    refine XS.lstoreN X0.here hx rfl (hb hby d7_1) rfl (l' := #[.val (.ref oa), .val (.long qs), .second, .val (.long (0 : Int64)), .second, .unset]) rfl ?_
    refine XS.iconst X0.here hx rfl (hb hby d7_2) ?_
    refine XS.istore X0.here hx rfl (hb hby d7_3) rfl (l' := #[.val (.ref oa), .val (.long qs), .second, .val (.long (0 : Int64)), .second, .val (.int (0 : Int32))]) rfl ?_
    show Steps p.tables e below (s₁.setTop (mkF m 5 #[.val (.ref oa), .val (.long qs), .second, .val (.long (0 : Int64)), .second, .val (.int (0 : Int32))] [])) _
    refine XS.iload X0.here hx rfl (hb hby d7_5) rfl ?_
    refine XS.aloadN X0.here hx rfl (hb hby d7_7) rfl rfl ?_
    refine st1 _ ?_
    refine XS.icmpNo X1.here hx rfl (hb hby d7_11) rfl (own_tlt (a := (0 : Int32)) (b := (1 : Int32)) (by decide) (by decide) hc11_2).2.1 ?_
    refine XS.lloadN X1.here hx rfl (hb hby d7_14) rfl ?_
    show Steps p.tables e below (T1.setTop (mkF m 15 #[.val (.ref oa), .val (.long qs), .second, .val (.long (0 : Int64)), .second, .val (.int (0 : Int32))] [(.long (0 : Int64))])) _
    refine XS.aloadN X1.here hx rfl (hb hby d7_15) rfl rfl ?_
    refine st3 _ ?_
    refine XS.iload X3.here hx rfl (hb hby d7_19) rfl ?_
    refine X3.laload hx (j := (0 : Int32)) (v := (.long c0)) (by rw [e3]; exact Ar4.1) (State.isArrayOf_alike hZ.alike Ar4.2.1) Ar4.2.2 hin4 hat4 (g := (mkF m 21 #[.val (.ref oa), .val (.long qs), .second, .val (.long (0 : Int64)), .second, .val (.int (0 : Int32))] [(.int (0 : Int32)), (.ref ca), (.long (0 : Int64))])) rfl rfl (hb hby d7_21) _ ?_
    refine XS.ladd X3.here hx rfl (hb hby d7_22) rfl ?_
    show Steps p.tables e below (T3.setTop (mkF m 23 #[.val (.ref oa), .val (.long qs), .second, .val (.long (0 : Int64)), .second, .val (.int (0 : Int32))] [(.long ((0 : Int64) + c0))])) _
    refine XS.lstoreN X3.here hx rfl (hb hby d7_23) rfl (l' := #[.val (.ref oa), .val (.long qs), .second, .val (.long ((0 : Int64) + c0)), .second, .val (.int (0 : Int32))]) rfl ?_
    exact kt
  obtain ⟨hd0_5, hhd0_5⟩ : ∃ z : Int64, z = ((0 : Int64) + c0) := ⟨_, rfl⟩
  have ihd0_5 : hd0_5.toInt = c0.toInt := by rw [hhd0_5]; have := rng64 c0; (first | (have : (((0 : Int64) + c0)).toInt = (0 : Int) + c0.toInt := (by have : ((((0 : Int64) + c0)).toInt - ((0 : Int) + c0.toInt)) % 18446744073709551616 = 0 := c_ladd (0 : Int64) c0; have := rng64 ((0 : Int64) + c0); omega)) | (have : ((((0 : Int64) + c0)).toInt - ((0 : Int) + c0.toInt)) % 18446744073709551616 = 0 := c_ladd (0 : Int64) c0; have := rng64 ((0 : Int64) + c0))); omega
  have pre7 : ∀ t, Steps p.tables e below (T3.setTop (mkF m 24 #[.val (.ref oa), .val (.long qs), .second, .val (.long hd0_5), .second, .val (.int (0 : Int32))] [])) t → Steps p.tables e below (s₁.setTop (entryFrame m #[(.ref oa), (.long qs)] 6)) t := by rw [hhd0_5]; exact pre6
  have pre9 : ∀ t, Steps p.tables e below (T3.setTop (mkF m 27 #[.val (.ref oa), .val (.long qs), .second, .val (.long hd0_5), .second, .val (.int (0 : Int32))] [(.int (lcmpW hd0_5 qs))])) t → Steps p.tables e below (s₁.setTop (entryFrame m #[(.ref oa), (.long qs)] 6)) t := fun t kt => by
    refine pre7 _ ?_
    refine XS.lloadN X3.here hx rfl (hb hby d7_24) rfl ?_
    refine XS.lloadN X3.here hx rfl (hb hby d7_25) rfl ?_
    refine XS.lcmp X3.here hx rfl (hb hby d7_26) rfl ?_
    exact kt
  by_cases hc27_8 : hd0_5.toInt < qs.toInt
  · obtain ⟨T10, X10, e10, st10⟩ := getF X3 hx hZ hown (host := "") (Or.inl (hw _ (List.mem_of_getElem? (i := 19) rfl))) Via.refl e3 F2 (g := (mkF m 8 #[.val (.ref oa), .val (.long qs), .second, .val (.long hd0_5), .second, .val (.int (1 : Int32))] [(.ref oa), (.int (1 : Int32))])) rfl rfl (hb hby d7_8)
    have hc11_11 : ¬ ((1 : Int) < (1 : Int)) := by decide
    obtain ⟨T12, X12, e12, st12⟩ := getF X10 hx hZ hown (host := "") (Or.inl (hw _ (List.mem_of_getElem? (i := 19) rfl))) Via.refl e10 F2 (g := (mkF m 40 #[.val (.ref oa), .val (.long qs), .second, .val (.long hd0_5), .second, .val (.int (1 : Int32))] [(.ref oa)])) rfl rfl (hb hby d7_40)
    obtain ⟨fs, hr, hrun, hended, hW, hsame⟩ := X12.leave (v := some (.int (1 : Int32))) (fun h => by rw [Bd.returns] at h; cases h)
    refine ⟨_, _, pre9 _ ?_, hrun, hended, _, _, rfl, ?_, ⟨_, rfl⟩, hW, hsame.mono (by decide) (by decide)⟩
    · show Steps p.tables e below (T3.setTop (mkF m 27 #[.val (.ref oa), .val (.long qs), .second, .val (.long hd0_5), .second, .val (.int (0 : Int32))] [(.int (lcmpW hd0_5 qs))])) _
      refine XS.ifYes X3.here hx rfl (pc0 := 27) (pc' := 33) rfl (hb hby d7_27) rfl (own_if (own_tltL (x := hd0_5) (y := qs) rfl rfl hc27_8).1) (by decide) (by decide) ?_
      refine XS.iinc X3.here hx rfl (hb hby d7_33) rfl (l' := #[.val (.ref oa), .val (.long qs), .second, .val (.long hd0_5), .second, .val (.int (1 : Int32))]) rfl ?_
      refine XS.goto X3.here hx rfl (pc0 := 36) (pc' := 5) rfl (hb hby d7_36) (by decide) (by decide) ?_
      refine XS.iload X3.here hx rfl (hb hby d7_5) rfl ?_
      refine XS.aloadN X3.here hx rfl (hb hby d7_7) rfl rfl ?_
      show Steps p.tables e below (T3.setTop (mkF m 8 #[.val (.ref oa), .val (.long qs), .second, .val (.long hd0_5), .second, .val (.int (1 : Int32))] [(.ref oa), (.int (1 : Int32))])) _
      refine st10 _ ?_
      refine XS.icmpYes X10.here hx rfl (pc0 := 11) (pc' := 39) rfl (hb hby d7_11) rfl (own_flt (a := (1 : Int32)) (b := (1 : Int32)) (by decide) (by decide) hc11_11).2.1 (by decide) (by decide) ?_
      refine XS.aloadN X10.here hx rfl (hb hby d7_39) rfl rfl ?_
      refine st12 _ ?_
      exact retI X12 hx Bd.returns (hb hby d7_43) hr
    · show Q_fr1 Z oa qs ea ca kE kC x0 c0 h0 n0 _ T12.heap _
      rw [e12]
      exact ⟨_, rfl, Or.inr (⟨rfl, by omega⟩), N0, rfl⟩
  · obtain ⟨fs, hr, hrun, hended, hW, hsame⟩ := X3.leave (v := some (.int (0 : Int32))) (fun h => by rw [Bd.returns] at h; cases h)
    refine ⟨_, _, pre9 _ ?_, hrun, hended, _, _, rfl, ?_, ⟨_, rfl⟩, hW, hsame.mono (by decide) (by decide)⟩
    · show Steps p.tables e below (T3.setTop (mkF m 27 #[.val (.ref oa), .val (.long qs), .second, .val (.long hd0_5), .second, .val (.int (0 : Int32))] [(.int (lcmpW hd0_5 qs))])) _
      refine XS.ifNo X3.here hx rfl (hb hby d7_27) rfl (own_if (own_fltL (x := hd0_5) (y := qs) rfl rfl hc27_8).1) ?_
      refine XS.iload X3.here hx rfl (hb hby d7_30) rfl ?_
      exact retI X3 hx Bd.returns (hb hby d7_32) hr
    · show Q_fr1 Z oa qs ea ca kE kC x0 c0 h0 n0 _ T3.heap _
      rw [e3]
      exact ⟨_, rfl, Or.inl ⟨rfl, by omega⟩, N0, rfl⟩
theorem ef_rm_sz1 (m : MethodId) (x0 : Addr) : entryFrame m #[(.ref x0)] 1 = mkF m 0 #[.val (.ref x0)] [] := by first | (simp [entryFrame, mkF, argsToLocals, Value.category]; done) | rfl
def Q_sz1 (Z : State) (oa : Addr) (ea : Addr) (ca : Addr) (kE : ClassId) (kC : ClassId) (x0 : Int64) (c0 : Int64) (h0 : Heap) (n0 : Nat) (v : Option Value) (h : Heap) (L : List Loc) : Prop := ∃ z : Int32, v = some (.int z) ∧ (z = (1 : Int32)) ∧ Fr n0 L ∧ h = h0
set_option maxRecDepth 65536 in
set_option maxHeartbeats 40000000 in
theorem rm_sz1 (l : Launch) (Z : State) (a0 : Array Value) (hw : ∀ d ∈ tables_1, d.before a0 Z = true) (ws : List Jvm.Cond) (oa : Addr) (ea : Addr) (ca : Addr) (kE : ClassId) (kC : ClassId) (x0 : Int64) (c0 : Int64) (h0 : Heap) (n0 : Nat) (Z0 : n0 ≤ h0.size) (Ea : Exa Z h0 oa "com/example/foreslot/foreslot/CountsByEnd") (F0 : Fld Z h0 oa "com/example/foreslot/foreslot/CountsByEnd" "ends" "[J" (.ref ea)) (F1 : Fld Z h0 oa "com/example/foreslot/foreslot/CountsByEnd" "counts" "[J" (.ref ca)) (F2 : Fld Z h0 oa "com/example/foreslot/foreslot/CountsByEnd" "size" "I" (.int (1 : Int32))) (V0 : Arv Z h0 ea kE .long (16 : Int32) [(.long x0), (.long (0 : Int64)), (.long (0 : Int64)), (.long (0 : Int64))] (.long (0 : Int64))) (V1 : Arv Z h0 ca kC .long (16 : Int32) [(.long c0), (.long (0 : Int64)), (.long (0 : Int64)), (.long (0 : Int64))] (.long (0 : Int64))) :
    MetFree l (⟨"com/example/foreslot/foreslot/CountsByEnd", "size", "()I"⟩ : MethodName) (head1 (Jvm.Cond.code (⟨"com/example/foreslot/foreslot/CountsByEnd", "size", "()I"⟩ : MethodName) prog_20_method_6_code 1 (some .int) :: ws) ({ frames := 0, cells := 0, slots := 0, locals := 0 } : Room)) (fun a U => a = #[(.ref oa)] ∧ Z.Warmed39 U.vm ∧ U.heap = h0) (fun _ _ _ _ _ => True) (fun _ U o U' => ∃ v L, o = .returned v ∧ Q_sz1 Z oa ea ca kE kC x0 c0 h0 n0 v U'.heap L ∧ FrameEnd U o U' L ({ frames := 0, cells := 0, slots := 0, locals := 0 } : Room).cells ({ frames := 0, cells := 0, slots := 0, locals := 0 } : Room).slots) := by
  refine MetFree.of_bodySF (plainFor_of_name pn_1) hisR ?_
  intro p e s m args below meth c s₁ Bd hml0 hP hK
  obtain ⟨rfl, hZ, hh⟩ := hP
  have hx := Bd.exec
  have hby := Bd.bytes
  have hml : c.maxLocals = 1 := hml0
  have hown : s.vm.findClass "com/example/foreslot/foreslot/CountsByEnd" = some m.cls := findClass_of_methodNamed Bd.named
  have hnm := (name_of_methodNamed Bd.named Bd.method).1
  have X0 : Stand p l e ({ frames := 0, cells := 0, slots := 0, locals := 0 } : Room) s m #[(.ref oa)] below meth c s₁ [] 0 0 := Stand.of_body Bd
  have e0 : s₁.heap = h0 := by rw [← hh, Bd.state]; rfl
  have N0 := Fr.nil n0
  have pre0 : ∀ t, Steps p.tables e below (s₁.setTop (mkF m 0 #[.val (.ref oa)] [])) t → Steps p.tables e below (s₁.setTop (entryFrame m #[(.ref oa)] 1)) t := fun t k => castTop (ef_rm_sz1 m oa) k
  obtain ⟨T1, X1, e1, st1⟩ := getF X0 hx hZ hown (host := "") (Or.inl (hw _ (List.mem_of_getElem? (i := 19) rfl))) Via.refl e0 F2 (g := (mkF m 1 #[.val (.ref oa)] [(.ref oa)])) rfl rfl (hb hby d8_1)
  obtain ⟨fs, hr, hrun, hended, hW, hsame⟩ := X1.leave (v := some (.int (1 : Int32))) (fun h => by rw [Bd.returns] at h; cases h)
  refine ⟨_, _, pre0 _ ?_, hrun, hended, _, _, rfl, ?_, ⟨_, rfl⟩, hW, hsame.mono (by decide) (by decide)⟩
  · refine XS.aloadN X0.here hx rfl (hb hby d8_0) rfl rfl ?_
    refine st1 _ ?_
    exact retI X1 hx Bd.returns (hb hby d8_4) hr
  · show Q_sz1 Z oa ea ca kE kC x0 c0 h0 n0 _ T1.heap _
    rw [e1]
    exact ⟨_, rfl, rfl, N0, rfl⟩
theorem d9_0 : decode prog_20_method_7_code 0 = .ok (.aload_n 0, 1) := by decide +kernel
theorem d9_1 : decode prog_20_method_7_code 1 = .ok (.getfield 9, 3) := by decide +kernel
theorem d9_4 : decode prog_20_method_7_code 4 = .ok (.iload_n 1, 1) := by decide +kernel
theorem d9_5 : decode prog_20_method_7_code 5 = .ok (.laload, 1) := by decide +kernel
theorem d9_6 : decode prog_20_method_7_code 6 = .ok (.lreturn, 1) := by decide +kernel
theorem ef_rm_e1_0 (m : MethodId) (x0 : Addr) : entryFrame m #[(.ref x0), (.int (0 : Int32))] 2 = mkF m 0 #[.val (.ref x0), .val (.int (0 : Int32))] [] := by first | (simp [entryFrame, mkF, argsToLocals, Value.category]; done) | rfl
def Q_e1_0 (Z : State) (oa : Addr) (ea : Addr) (ca : Addr) (kE : ClassId) (kC : ClassId) (x0 : Int64) (c0 : Int64) (h0 : Heap) (n0 : Nat) (v : Option Value) (h : Heap) (L : List Loc) : Prop := ∃ z : Int64, v = some (.long z) ∧ (z.toInt = x0.toInt) ∧ Fr n0 L ∧ h = h0
set_option maxRecDepth 65536 in
set_option maxHeartbeats 40000000 in
theorem rm_e1_0 (l : Launch) (Z : State) (a0 : Array Value) (hw : ∀ d ∈ tables_1, d.before a0 Z = true) (ws : List Jvm.Cond) (oa : Addr) (ea : Addr) (ca : Addr) (kE : ClassId) (kC : ClassId) (x0 : Int64) (c0 : Int64) (h0 : Heap) (n0 : Nat) (Z0 : n0 ≤ h0.size) (Ea : Exa Z h0 oa "com/example/foreslot/foreslot/CountsByEnd") (F0 : Fld Z h0 oa "com/example/foreslot/foreslot/CountsByEnd" "ends" "[J" (.ref ea)) (F1 : Fld Z h0 oa "com/example/foreslot/foreslot/CountsByEnd" "counts" "[J" (.ref ca)) (F2 : Fld Z h0 oa "com/example/foreslot/foreslot/CountsByEnd" "size" "I" (.int (1 : Int32))) (V0 : Arv Z h0 ea kE .long (16 : Int32) [(.long x0), (.long (0 : Int64)), (.long (0 : Int64)), (.long (0 : Int64))] (.long (0 : Int64))) (V1 : Arv Z h0 ca kC .long (16 : Int32) [(.long c0), (.long (0 : Int64)), (.long (0 : Int64)), (.long (0 : Int64))] (.long (0 : Int64))) :
    MetFree l (⟨"com/example/foreslot/foreslot/CountsByEnd", "end", "(I)J"⟩ : MethodName) (head1 (Jvm.Cond.code (⟨"com/example/foreslot/foreslot/CountsByEnd", "end", "(I)J"⟩ : MethodName) prog_20_method_7_code 2 (some .long) :: ws) ({ frames := 0, cells := 0, slots := 0, locals := 0 } : Room)) (fun a U => a = #[(.ref oa), (.int (0 : Int32))] ∧ Z.Warmed39 U.vm ∧ U.heap = h0) (fun _ _ _ _ _ => True) (fun _ U o U' => ∃ v L, o = .returned v ∧ Q_e1_0 Z oa ea ca kE kC x0 c0 h0 n0 v U'.heap L ∧ FrameEnd U o U' L ({ frames := 0, cells := 0, slots := 0, locals := 0 } : Room).cells ({ frames := 0, cells := 0, slots := 0, locals := 0 } : Room).slots) := by
  refine MetFree.of_bodySF (plainFor_of_name pn_1) hisR ?_
  intro p e s m args below meth c s₁ Bd hml0 hP hK
  obtain ⟨rfl, hZ, hh⟩ := hP
  have hx := Bd.exec
  have hby := Bd.bytes
  have hml : c.maxLocals = 2 := hml0
  have hown : s.vm.findClass "com/example/foreslot/foreslot/CountsByEnd" = some m.cls := findClass_of_methodNamed Bd.named
  have hnm := (name_of_methodNamed Bd.named Bd.method).1
  have X0 : Stand p l e ({ frames := 0, cells := 0, slots := 0, locals := 0 } : Room) s m #[(.ref oa), (.int (0 : Int32))] below meth c s₁ [] 0 0 := Stand.of_body Bd
  have e0 : s₁.heap = h0 := by rw [← hh, Bd.state]; rfl
  have N0 := Fr.nil n0
  have pre0 : ∀ t, Steps p.tables e below (s₁.setTop (mkF m 0 #[.val (.ref oa), .val (.int (0 : Int32))] [])) t → Steps p.tables e below (s₁.setTop (entryFrame m #[(.ref oa), (.int (0 : Int32))] 2)) t := fun t k => castTop (ef_rm_e1_0 m oa) k
  obtain ⟨T1, X1, e1, st1⟩ := getF X0 hx hZ hown (host := "") (Or.inl (hw _ (List.mem_of_getElem? (i := 10) rfl))) Via.refl e0 F0 (g := (mkF m 1 #[.val (.ref oa), .val (.int (0 : Int32))] [(.ref oa)])) rfl rfl (hb hby d9_1)
  obtain ⟨cl2, Ar2, q2, S2, M2, H2, G2⟩ := id V0
  have hin2 : ¬ ((0 : Int32) < 0 ∨ cl2.slots.size ≤ ((0 : Int32)).toNatClampNeg) := inb_of S2 ⟨by decide, by decide⟩
  have hat2 : cl2.slots[((0 : Int32)).toNatClampNeg]? = some (.long x0) := Has.at H2 hin2 rfl
  obtain ⟨fs, hr, hrun, hended, hW, hsame⟩ := X1.leave (v := some (.long x0)) (fun h => by rw [Bd.returns] at h; cases h)
  refine ⟨_, _, pre0 _ ?_, hrun, hended, _, _, rfl, ?_, ⟨_, rfl⟩, hW, hsame.mono (by decide) (by decide)⟩
  · refine XS.aloadN X0.here hx rfl (hb hby d9_0) rfl rfl ?_
    refine st1 _ ?_
    refine XS.iloadN X1.here hx rfl (hb hby d9_4) rfl ?_
    refine X1.laload hx (j := (0 : Int32)) (v := (.long x0)) (by rw [e1]; exact Ar2.1) (State.isArrayOf_alike hZ.alike Ar2.2.1) Ar2.2.2 hin2 hat2 (g := (mkF m 5 #[.val (.ref oa), .val (.int (0 : Int32))] [(.int (0 : Int32)), (.ref ea)])) rfl rfl (hb hby d9_5) _ ?_
    show Steps p.tables e below (T1.setTop (mkF m 6 #[.val (.ref oa), .val (.int (0 : Int32))] [(.long x0)])) _
    jvm_step X1.here [X1.here.top, hx, (hb hby d9_6), X1.method', Bd.returns, narrow]
    first | (intro acts; rw [hr _ acts rfl rfl rfl]) | rw [hr _ _ rfl rfl rfl]
    exact Steps.refl _
  · show Q_e1_0 Z oa ea ca kE kC x0 c0 h0 n0 _ T1.heap _
    rw [e1]
    exact ⟨_, rfl, rfl, N0, rfl⟩
theorem ef_rm_fr2 (m : MethodId) (x0 : Addr) (x1 : Int64) : entryFrame m #[(.ref x0), (.long x1)] 6 = mkF m 0 #[.val (.ref x0), .val (.long x1), .second, .unset, .unset, .unset] [] := by first | (simp [entryFrame, mkF, argsToLocals, Value.category]; done) | rfl
def Q_fr2 (Z : State) (oa : Addr) (qs : Int64) (ea : Addr) (ca : Addr) (kE : ClassId) (kC : ClassId) (x0 : Int64) (x1 : Int64) (c0 : Int64) (c1 : Int64) (h0 : Heap) (n0 : Nat) (v : Option Value) (h : Heap) (L : List Loc) : Prop := ∃ z : Int32, v = some (.int z) ∧ ((z = (0 : Int32) ∧ qs.toInt ≤ c0.toInt) ∨ (z = (1 : Int32) ∧ c0.toInt < qs.toInt ∧ qs.toInt ≤ c0.toInt + c1.toInt) ∨ (z = (2 : Int32) ∧ c0.toInt + c1.toInt < qs.toInt)) ∧ Fr n0 L ∧ h = h0
set_option maxRecDepth 65536 in
set_option maxHeartbeats 40000000 in
theorem rm_fr2 (l : Launch) (Z : State) (a0 : Array Value) (hw : ∀ d ∈ tables_1, d.before a0 Z = true) (ws : List Jvm.Cond) (oa : Addr) (qs : Int64) (ea : Addr) (ca : Addr) (kE : ClassId) (kC : ClassId) (x0 : Int64) (x1 : Int64) (c0 : Int64) (c1 : Int64) (h0 : Heap) (n0 : Nat) (Z0 : n0 ≤ h0.size) (Ea : Exa Z h0 oa "com/example/foreslot/foreslot/CountsByEnd") (F0 : Fld Z h0 oa "com/example/foreslot/foreslot/CountsByEnd" "ends" "[J" (.ref ea)) (F1 : Fld Z h0 oa "com/example/foreslot/foreslot/CountsByEnd" "counts" "[J" (.ref ca)) (F2 : Fld Z h0 oa "com/example/foreslot/foreslot/CountsByEnd" "size" "I" (.int (2 : Int32))) (V0 : Arv Z h0 ea kE .long (16 : Int32) [(.long x0), (.long x1), (.long (0 : Int64)), (.long (0 : Int64))] (.long (0 : Int64))) (V1 : Arv Z h0 ca kC .long (16 : Int32) [(.long c0), (.long c1), (.long (0 : Int64)), (.long (0 : Int64))] (.long (0 : Int64))) (kc0 : 1 ≤ c0.toInt) (kc1 : 1 ≤ c1.toInt) (kt : c0.toInt + c1.toInt ≤ 100000) :
    MetFree l (⟨"com/example/foreslot/foreslot/CountsByEnd", "firstReaching", "(J)I"⟩ : MethodName) (head1 (Jvm.Cond.code (⟨"com/example/foreslot/foreslot/CountsByEnd", "firstReaching", "(J)I"⟩ : MethodName) prog_20_method_5_code 6 (some .int) :: ws) ({ frames := 0, cells := 0, slots := 0, locals := 0 } : Room)) (fun a U => a = #[(.ref oa), (.long qs)] ∧ Z.Warmed39 U.vm ∧ U.heap = h0) (fun _ _ _ _ _ => True) (fun _ U o U' => ∃ v L, o = .returned v ∧ Q_fr2 Z oa qs ea ca kE kC x0 x1 c0 c1 h0 n0 v U'.heap L ∧ FrameEnd U o U' L ({ frames := 0, cells := 0, slots := 0, locals := 0 } : Room).cells ({ frames := 0, cells := 0, slots := 0, locals := 0 } : Room).slots) := by
  refine MetFree.of_bodySF (plainFor_of_name pn_1) hisR ?_
  intro p e s m args below meth c s₁ Bd hml0 hP hK
  obtain ⟨rfl, hZ, hh⟩ := hP
  have hx := Bd.exec
  have hby := Bd.bytes
  have hml : c.maxLocals = 6 := hml0
  have hown : s.vm.findClass "com/example/foreslot/foreslot/CountsByEnd" = some m.cls := findClass_of_methodNamed Bd.named
  have hnm := (name_of_methodNamed Bd.named Bd.method).1
  have X0 : Stand p l e ({ frames := 0, cells := 0, slots := 0, locals := 0 } : Room) s m #[(.ref oa), (.long qs)] below meth c s₁ [] 0 0 := Stand.of_body Bd
  have e0 : s₁.heap = h0 := by rw [← hh, Bd.state]; rfl
  have N0 := Fr.nil n0
  have pre0 : ∀ t, Steps p.tables e below (s₁.setTop (mkF m 0 #[.val (.ref oa), .val (.long qs), .second, .unset, .unset, .unset] [])) t → Steps p.tables e below (s₁.setTop (entryFrame m #[(.ref oa), (.long qs)] 6)) t := fun t k => castTop (ef_rm_fr2 m oa qs) k
  obtain ⟨T1, X1, e1, st1⟩ := getF X0 hx hZ hown (host := "") (Or.inl (hw _ (List.mem_of_getElem? (i := 19) rfl))) Via.refl e0 F2 (g := (mkF m 8 #[.val (.ref oa), .val (.long qs), .second, .val (.long (0 : Int64)), .second, .val (.int (0 : Int32))] [(.ref oa), (.int (0 : Int32))])) rfl rfl (hb hby d7_8)
  have hc11_2 : (0 : Int) < (2 : Int) := by decide
  obtain ⟨T3, X3, e3, st3⟩ := getF X1 hx hZ hown (host := "") (Or.inl (hw _ (List.mem_of_getElem? (i := 12) rfl))) Via.refl e1 F1 (g := (mkF m 16 #[.val (.ref oa), .val (.long qs), .second, .val (.long (0 : Int64)), .second, .val (.int (0 : Int32))] [(.ref oa), (.long (0 : Int64))])) rfl rfl (hb hby d7_16)
  obtain ⟨cl4, Ar4, q4, S4, M4, H4, G4⟩ := id V1
  have hin4 : ¬ ((0 : Int32) < 0 ∨ cl4.slots.size ≤ ((0 : Int32)).toNatClampNeg) := inb_of S4 ⟨by decide, by decide⟩
  have hat4 : cl4.slots[((0 : Int32)).toNatClampNeg]? = some (.long c0) := Has.at H4 hin4 rfl
  have pre6 : ∀ t, Steps p.tables e below (T3.setTop (mkF m 24 #[.val (.ref oa), .val (.long qs), .second, .val (.long ((0 : Int64) + c0)), .second, .val (.int (0 : Int32))] [])) t → Steps p.tables e below (s₁.setTop (entryFrame m #[(.ref oa), (.long qs)] 6)) t := fun t kt => by
    refine pre0 _ ?_
    refine XS.lconst X0.here hx rfl (hb hby d7_0) ?_
    refine XS.lstoreN X0.here hx rfl (hb hby d7_1) rfl (l' := #[.val (.ref oa), .val (.long qs), .second, .val (.long (0 : Int64)), .second, .unset]) rfl ?_
    refine XS.iconst X0.here hx rfl (hb hby d7_2) ?_
    refine XS.istore X0.here hx rfl (hb hby d7_3) rfl (l' := #[.val (.ref oa), .val (.long qs), .second, .val (.long (0 : Int64)), .second, .val (.int (0 : Int32))]) rfl ?_
    show Steps p.tables e below (s₁.setTop (mkF m 5 #[.val (.ref oa), .val (.long qs), .second, .val (.long (0 : Int64)), .second, .val (.int (0 : Int32))] [])) _
    refine XS.iload X0.here hx rfl (hb hby d7_5) rfl ?_
    refine XS.aloadN X0.here hx rfl (hb hby d7_7) rfl rfl ?_
    refine st1 _ ?_
    refine XS.icmpNo X1.here hx rfl (hb hby d7_11) rfl (own_tlt (a := (0 : Int32)) (b := (2 : Int32)) (by decide) (by decide) hc11_2).2.1 ?_
    refine XS.lloadN X1.here hx rfl (hb hby d7_14) rfl ?_
    show Steps p.tables e below (T1.setTop (mkF m 15 #[.val (.ref oa), .val (.long qs), .second, .val (.long (0 : Int64)), .second, .val (.int (0 : Int32))] [(.long (0 : Int64))])) _
    refine XS.aloadN X1.here hx rfl (hb hby d7_15) rfl rfl ?_
    refine st3 _ ?_
    refine XS.iload X3.here hx rfl (hb hby d7_19) rfl ?_
    refine X3.laload hx (j := (0 : Int32)) (v := (.long c0)) (by rw [e3]; exact Ar4.1) (State.isArrayOf_alike hZ.alike Ar4.2.1) Ar4.2.2 hin4 hat4 (g := (mkF m 21 #[.val (.ref oa), .val (.long qs), .second, .val (.long (0 : Int64)), .second, .val (.int (0 : Int32))] [(.int (0 : Int32)), (.ref ca), (.long (0 : Int64))])) rfl rfl (hb hby d7_21) _ ?_
    refine XS.ladd X3.here hx rfl (hb hby d7_22) rfl ?_
    show Steps p.tables e below (T3.setTop (mkF m 23 #[.val (.ref oa), .val (.long qs), .second, .val (.long (0 : Int64)), .second, .val (.int (0 : Int32))] [(.long ((0 : Int64) + c0))])) _
    refine XS.lstoreN X3.here hx rfl (hb hby d7_23) rfl (l' := #[.val (.ref oa), .val (.long qs), .second, .val (.long ((0 : Int64) + c0)), .second, .val (.int (0 : Int32))]) rfl ?_
    exact kt
  obtain ⟨hd0_5, hhd0_5⟩ : ∃ z : Int64, z = ((0 : Int64) + c0) := ⟨_, rfl⟩
  have ihd0_5 : hd0_5.toInt = c0.toInt := by rw [hhd0_5]; have := rng64 c0; (first | (have : (((0 : Int64) + c0)).toInt = (0 : Int) + c0.toInt := (by have : ((((0 : Int64) + c0)).toInt - ((0 : Int) + c0.toInt)) % 18446744073709551616 = 0 := c_ladd (0 : Int64) c0; have := rng64 ((0 : Int64) + c0); omega)) | (have : ((((0 : Int64) + c0)).toInt - ((0 : Int) + c0.toInt)) % 18446744073709551616 = 0 := c_ladd (0 : Int64) c0; have := rng64 ((0 : Int64) + c0))); omega
  have pre7 : ∀ t, Steps p.tables e below (T3.setTop (mkF m 24 #[.val (.ref oa), .val (.long qs), .second, .val (.long hd0_5), .second, .val (.int (0 : Int32))] [])) t → Steps p.tables e below (s₁.setTop (entryFrame m #[(.ref oa), (.long qs)] 6)) t := by rw [hhd0_5]; exact pre6
  have pre9 : ∀ t, Steps p.tables e below (T3.setTop (mkF m 27 #[.val (.ref oa), .val (.long qs), .second, .val (.long hd0_5), .second, .val (.int (0 : Int32))] [(.int (lcmpW hd0_5 qs))])) t → Steps p.tables e below (s₁.setTop (entryFrame m #[(.ref oa), (.long qs)] 6)) t := fun t kt => by
    refine pre7 _ ?_
    refine XS.lloadN X3.here hx rfl (hb hby d7_24) rfl ?_
    refine XS.lloadN X3.here hx rfl (hb hby d7_25) rfl ?_
    refine XS.lcmp X3.here hx rfl (hb hby d7_26) rfl ?_
    exact kt
  by_cases hc27_8 : hd0_5.toInt < qs.toInt
  · obtain ⟨T10, X10, e10, st10⟩ := getF X3 hx hZ hown (host := "") (Or.inl (hw _ (List.mem_of_getElem? (i := 19) rfl))) Via.refl e3 F2 (g := (mkF m 8 #[.val (.ref oa), .val (.long qs), .second, .val (.long hd0_5), .second, .val (.int (1 : Int32))] [(.ref oa), (.int (1 : Int32))])) rfl rfl (hb hby d7_8)
    have hc11_11 : (1 : Int) < (2 : Int) := by decide
    obtain ⟨T12, X12, e12, st12⟩ := getF X10 hx hZ hown (host := "") (Or.inl (hw _ (List.mem_of_getElem? (i := 12) rfl))) Via.refl e10 F1 (g := (mkF m 16 #[.val (.ref oa), .val (.long qs), .second, .val (.long hd0_5), .second, .val (.int (1 : Int32))] [(.ref oa), (.long hd0_5)])) rfl rfl (hb hby d7_16)
    obtain ⟨cl13, Ar13, q13, S13, M13, H13, G13⟩ := id V1
    have hin13 : ¬ ((1 : Int32) < 0 ∨ cl13.slots.size ≤ ((1 : Int32)).toNatClampNeg) := inb_of S13 ⟨by decide, by decide⟩
    have hat13 : cl13.slots[((1 : Int32)).toNatClampNeg]? = some (.long c1) := Has.at H13 hin13 rfl
    have pre15 : ∀ t, Steps p.tables e below (T12.setTop (mkF m 24 #[.val (.ref oa), .val (.long qs), .second, .val (.long (hd0_5 + c1)), .second, .val (.int (1 : Int32))] [])) t → Steps p.tables e below (s₁.setTop (entryFrame m #[(.ref oa), (.long qs)] 6)) t := fun t kt => by
      refine pre9 _ ?_
      show Steps p.tables e below (T3.setTop (mkF m 27 #[.val (.ref oa), .val (.long qs), .second, .val (.long hd0_5), .second, .val (.int (0 : Int32))] [(.int (lcmpW hd0_5 qs))])) _
      refine XS.ifYes X3.here hx rfl (pc0 := 27) (pc' := 33) rfl (hb hby d7_27) rfl (own_if (own_tltL (x := hd0_5) (y := qs) rfl rfl hc27_8).1) (by decide) (by decide) ?_
      refine XS.iinc X3.here hx rfl (hb hby d7_33) rfl (l' := #[.val (.ref oa), .val (.long qs), .second, .val (.long hd0_5), .second, .val (.int (1 : Int32))]) rfl ?_
      refine XS.goto X3.here hx rfl (pc0 := 36) (pc' := 5) rfl (hb hby d7_36) (by decide) (by decide) ?_
      refine XS.iload X3.here hx rfl (hb hby d7_5) rfl ?_
      refine XS.aloadN X3.here hx rfl (hb hby d7_7) rfl rfl ?_
      show Steps p.tables e below (T3.setTop (mkF m 8 #[.val (.ref oa), .val (.long qs), .second, .val (.long hd0_5), .second, .val (.int (1 : Int32))] [(.ref oa), (.int (1 : Int32))])) _
      refine st10 _ ?_
      refine XS.icmpNo X10.here hx rfl (hb hby d7_11) rfl (own_tlt (a := (1 : Int32)) (b := (2 : Int32)) (by decide) (by decide) hc11_11).2.1 ?_
      refine XS.lloadN X10.here hx rfl (hb hby d7_14) rfl ?_
      refine XS.aloadN X10.here hx rfl (hb hby d7_15) rfl rfl ?_
      refine st12 _ ?_
      show Steps p.tables e below (T12.setTop (mkF m 19 #[.val (.ref oa), .val (.long qs), .second, .val (.long hd0_5), .second, .val (.int (1 : Int32))] [(.ref ca), (.long hd0_5)])) _
      refine XS.iload X12.here hx rfl (hb hby d7_19) rfl ?_
      refine X12.laload hx (j := (1 : Int32)) (v := (.long c1)) (by rw [e12]; exact Ar13.1) (State.isArrayOf_alike hZ.alike Ar13.2.1) Ar13.2.2 hin13 hat13 (g := (mkF m 21 #[.val (.ref oa), .val (.long qs), .second, .val (.long hd0_5), .second, .val (.int (1 : Int32))] [(.int (1 : Int32)), (.ref ca), (.long hd0_5)])) rfl rfl (hb hby d7_21) _ ?_
      refine XS.ladd X12.here hx rfl (hb hby d7_22) rfl ?_
      refine XS.lstoreN X12.here hx rfl (hb hby d7_23) rfl (l' := #[.val (.ref oa), .val (.long qs), .second, .val (.long (hd0_5 + c1)), .second, .val (.int (1 : Int32))]) rfl ?_
      exact kt
    obtain ⟨hd1_14, hhd1_14⟩ : ∃ z : Int64, z = (hd0_5 + c1) := ⟨_, rfl⟩
    have ihd1_14 : hd1_14.toInt = c0.toInt + c1.toInt := by rw [hhd1_14]; have := rng64 hd0_5; have := rng64 c1; (first | (have : ((hd0_5 + c1)).toInt = hd0_5.toInt + c1.toInt := (by have : (((hd0_5 + c1)).toInt - (hd0_5.toInt + c1.toInt)) % 18446744073709551616 = 0 := c_ladd hd0_5 c1; have := rng64 (hd0_5 + c1); omega)) | (have : (((hd0_5 + c1)).toInt - (hd0_5.toInt + c1.toInt)) % 18446744073709551616 = 0 := c_ladd hd0_5 c1; have := rng64 (hd0_5 + c1))); omega
    have pre16 : ∀ t, Steps p.tables e below (T12.setTop (mkF m 24 #[.val (.ref oa), .val (.long qs), .second, .val (.long hd1_14), .second, .val (.int (1 : Int32))] [])) t → Steps p.tables e below (s₁.setTop (entryFrame m #[(.ref oa), (.long qs)] 6)) t := by rw [hhd1_14]; exact pre15
    have pre18 : ∀ t, Steps p.tables e below (T12.setTop (mkF m 27 #[.val (.ref oa), .val (.long qs), .second, .val (.long hd1_14), .second, .val (.int (1 : Int32))] [(.int (lcmpW hd1_14 qs))])) t → Steps p.tables e below (s₁.setTop (entryFrame m #[(.ref oa), (.long qs)] 6)) t := fun t kt => by
      refine pre16 _ ?_
      refine XS.lloadN X12.here hx rfl (hb hby d7_24) rfl ?_
      show Steps p.tables e below (T12.setTop (mkF m 25 #[.val (.ref oa), .val (.long qs), .second, .val (.long hd1_14), .second, .val (.int (1 : Int32))] [(.long hd1_14)])) _
      refine XS.lloadN X12.here hx rfl (hb hby d7_25) rfl ?_
      refine XS.lcmp X12.here hx rfl (hb hby d7_26) rfl ?_
      exact kt
    by_cases hc27_17 : hd1_14.toInt < qs.toInt
    · obtain ⟨T19, X19, e19, st19⟩ := getF X12 hx hZ hown (host := "") (Or.inl (hw _ (List.mem_of_getElem? (i := 19) rfl))) Via.refl e12 F2 (g := (mkF m 8 #[.val (.ref oa), .val (.long qs), .second, .val (.long hd1_14), .second, .val (.int (2 : Int32))] [(.ref oa), (.int (2 : Int32))])) rfl rfl (hb hby d7_8)
      have hc11_20 : ¬ ((2 : Int) < (2 : Int)) := by decide
      obtain ⟨T21, X21, e21, st21⟩ := getF X19 hx hZ hown (host := "") (Or.inl (hw _ (List.mem_of_getElem? (i := 19) rfl))) Via.refl e19 F2 (g := (mkF m 40 #[.val (.ref oa), .val (.long qs), .second, .val (.long hd1_14), .second, .val (.int (2 : Int32))] [(.ref oa)])) rfl rfl (hb hby d7_40)
      obtain ⟨fs, hr, hrun, hended, hW, hsame⟩ := X21.leave (v := some (.int (2 : Int32))) (fun h => by rw [Bd.returns] at h; cases h)
      refine ⟨_, _, pre18 _ ?_, hrun, hended, _, _, rfl, ?_, ⟨_, rfl⟩, hW, hsame.mono (by decide) (by decide)⟩
      · show Steps p.tables e below (T12.setTop (mkF m 27 #[.val (.ref oa), .val (.long qs), .second, .val (.long hd1_14), .second, .val (.int (1 : Int32))] [(.int (lcmpW hd1_14 qs))])) _
        refine XS.ifYes X12.here hx rfl (pc0 := 27) (pc' := 33) rfl (hb hby d7_27) rfl (own_if (own_tltL (x := hd1_14) (y := qs) rfl rfl hc27_17).1) (by decide) (by decide) ?_
        refine XS.iinc X12.here hx rfl (hb hby d7_33) rfl (l' := #[.val (.ref oa), .val (.long qs), .second, .val (.long hd1_14), .second, .val (.int (2 : Int32))]) rfl ?_
        show Steps p.tables e below (T12.setTop (mkF m 36 #[.val (.ref oa), .val (.long qs), .second, .val (.long hd1_14), .second, .val (.int (2 : Int32))] [])) _
        refine XS.goto X12.here hx rfl (pc0 := 36) (pc' := 5) rfl (hb hby d7_36) (by decide) (by decide) ?_
        refine XS.iload X12.here hx rfl (hb hby d7_5) rfl ?_
        refine XS.aloadN X12.here hx rfl (hb hby d7_7) rfl rfl ?_
        refine st19 _ ?_
        refine XS.icmpYes X19.here hx rfl (pc0 := 11) (pc' := 39) rfl (hb hby d7_11) rfl (own_flt (a := (2 : Int32)) (b := (2 : Int32)) (by decide) (by decide) hc11_20).2.1 (by decide) (by decide) ?_
        show Steps p.tables e below (T19.setTop (mkF m 39 #[.val (.ref oa), .val (.long qs), .second, .val (.long hd1_14), .second, .val (.int (2 : Int32))] [])) _
        refine XS.aloadN X19.here hx rfl (hb hby d7_39) rfl rfl ?_
        refine st21 _ ?_
        exact retI X21 hx Bd.returns (hb hby d7_43) hr
      · show Q_fr2 Z oa qs ea ca kE kC x0 x1 c0 c1 h0 n0 _ T21.heap _
        rw [e21]
        exact ⟨_, rfl, Or.inr (Or.inr (⟨rfl, by omega⟩)), N0, rfl⟩
    · obtain ⟨fs, hr, hrun, hended, hW, hsame⟩ := X12.leave (v := some (.int (1 : Int32))) (fun h => by rw [Bd.returns] at h; cases h)
      refine ⟨_, _, pre18 _ ?_, hrun, hended, _, _, rfl, ?_, ⟨_, rfl⟩, hW, hsame.mono (by decide) (by decide)⟩
      · show Steps p.tables e below (T12.setTop (mkF m 27 #[.val (.ref oa), .val (.long qs), .second, .val (.long hd1_14), .second, .val (.int (1 : Int32))] [(.int (lcmpW hd1_14 qs))])) _
        refine XS.ifNo X12.here hx rfl (hb hby d7_27) rfl (own_if (own_fltL (x := hd1_14) (y := qs) rfl rfl hc27_17).1) ?_
        refine XS.iload X12.here hx rfl (hb hby d7_30) rfl ?_
        show Steps p.tables e below (T12.setTop (mkF m 32 #[.val (.ref oa), .val (.long qs), .second, .val (.long hd1_14), .second, .val (.int (1 : Int32))] [(.int (1 : Int32))])) _
        exact retI X12 hx Bd.returns (hb hby d7_32) hr
      · show Q_fr2 Z oa qs ea ca kE kC x0 x1 c0 c1 h0 n0 _ T12.heap _
        rw [e12]
        exact ⟨_, rfl, Or.inr (Or.inl ⟨rfl, by omega, by omega⟩), N0, rfl⟩
  · obtain ⟨fs, hr, hrun, hended, hW, hsame⟩ := X3.leave (v := some (.int (0 : Int32))) (fun h => by rw [Bd.returns] at h; cases h)
    refine ⟨_, _, pre9 _ ?_, hrun, hended, _, _, rfl, ?_, ⟨_, rfl⟩, hW, hsame.mono (by decide) (by decide)⟩
    · show Steps p.tables e below (T3.setTop (mkF m 27 #[.val (.ref oa), .val (.long qs), .second, .val (.long hd0_5), .second, .val (.int (0 : Int32))] [(.int (lcmpW hd0_5 qs))])) _
      refine XS.ifNo X3.here hx rfl (hb hby d7_27) rfl (own_if (own_fltL (x := hd0_5) (y := qs) rfl rfl hc27_8).1) ?_
      refine XS.iload X3.here hx rfl (hb hby d7_30) rfl ?_
      exact retI X3 hx Bd.returns (hb hby d7_32) hr
    · show Q_fr2 Z oa qs ea ca kE kC x0 x1 c0 c1 h0 n0 _ T3.heap _
      rw [e3]
      exact ⟨_, rfl, Or.inl ⟨rfl, by omega⟩, N0, rfl⟩
theorem ef_rm_sz2 (m : MethodId) (x0 : Addr) : entryFrame m #[(.ref x0)] 1 = mkF m 0 #[.val (.ref x0)] [] := by first | (simp [entryFrame, mkF, argsToLocals, Value.category]; done) | rfl
def Q_sz2 (Z : State) (oa : Addr) (ea : Addr) (ca : Addr) (kE : ClassId) (kC : ClassId) (x0 : Int64) (x1 : Int64) (c0 : Int64) (c1 : Int64) (h0 : Heap) (n0 : Nat) (v : Option Value) (h : Heap) (L : List Loc) : Prop := ∃ z : Int32, v = some (.int z) ∧ (z = (2 : Int32)) ∧ Fr n0 L ∧ h = h0
set_option maxRecDepth 65536 in
set_option maxHeartbeats 40000000 in
theorem rm_sz2 (l : Launch) (Z : State) (a0 : Array Value) (hw : ∀ d ∈ tables_1, d.before a0 Z = true) (ws : List Jvm.Cond) (oa : Addr) (ea : Addr) (ca : Addr) (kE : ClassId) (kC : ClassId) (x0 : Int64) (x1 : Int64) (c0 : Int64) (c1 : Int64) (h0 : Heap) (n0 : Nat) (Z0 : n0 ≤ h0.size) (Ea : Exa Z h0 oa "com/example/foreslot/foreslot/CountsByEnd") (F0 : Fld Z h0 oa "com/example/foreslot/foreslot/CountsByEnd" "ends" "[J" (.ref ea)) (F1 : Fld Z h0 oa "com/example/foreslot/foreslot/CountsByEnd" "counts" "[J" (.ref ca)) (F2 : Fld Z h0 oa "com/example/foreslot/foreslot/CountsByEnd" "size" "I" (.int (2 : Int32))) (V0 : Arv Z h0 ea kE .long (16 : Int32) [(.long x0), (.long x1), (.long (0 : Int64)), (.long (0 : Int64))] (.long (0 : Int64))) (V1 : Arv Z h0 ca kC .long (16 : Int32) [(.long c0), (.long c1), (.long (0 : Int64)), (.long (0 : Int64))] (.long (0 : Int64))) :
    MetFree l (⟨"com/example/foreslot/foreslot/CountsByEnd", "size", "()I"⟩ : MethodName) (head1 (Jvm.Cond.code (⟨"com/example/foreslot/foreslot/CountsByEnd", "size", "()I"⟩ : MethodName) prog_20_method_6_code 1 (some .int) :: ws) ({ frames := 0, cells := 0, slots := 0, locals := 0 } : Room)) (fun a U => a = #[(.ref oa)] ∧ Z.Warmed39 U.vm ∧ U.heap = h0) (fun _ _ _ _ _ => True) (fun _ U o U' => ∃ v L, o = .returned v ∧ Q_sz2 Z oa ea ca kE kC x0 x1 c0 c1 h0 n0 v U'.heap L ∧ FrameEnd U o U' L ({ frames := 0, cells := 0, slots := 0, locals := 0 } : Room).cells ({ frames := 0, cells := 0, slots := 0, locals := 0 } : Room).slots) := by
  refine MetFree.of_bodySF (plainFor_of_name pn_1) hisR ?_
  intro p e s m args below meth c s₁ Bd hml0 hP hK
  obtain ⟨rfl, hZ, hh⟩ := hP
  have hx := Bd.exec
  have hby := Bd.bytes
  have hml : c.maxLocals = 1 := hml0
  have hown : s.vm.findClass "com/example/foreslot/foreslot/CountsByEnd" = some m.cls := findClass_of_methodNamed Bd.named
  have hnm := (name_of_methodNamed Bd.named Bd.method).1
  have X0 : Stand p l e ({ frames := 0, cells := 0, slots := 0, locals := 0 } : Room) s m #[(.ref oa)] below meth c s₁ [] 0 0 := Stand.of_body Bd
  have e0 : s₁.heap = h0 := by rw [← hh, Bd.state]; rfl
  have N0 := Fr.nil n0
  have pre0 : ∀ t, Steps p.tables e below (s₁.setTop (mkF m 0 #[.val (.ref oa)] [])) t → Steps p.tables e below (s₁.setTop (entryFrame m #[(.ref oa)] 1)) t := fun t k => castTop (ef_rm_sz2 m oa) k
  obtain ⟨T1, X1, e1, st1⟩ := getF X0 hx hZ hown (host := "") (Or.inl (hw _ (List.mem_of_getElem? (i := 19) rfl))) Via.refl e0 F2 (g := (mkF m 1 #[.val (.ref oa)] [(.ref oa)])) rfl rfl (hb hby d8_1)
  obtain ⟨fs, hr, hrun, hended, hW, hsame⟩ := X1.leave (v := some (.int (2 : Int32))) (fun h => by rw [Bd.returns] at h; cases h)
  refine ⟨_, _, pre0 _ ?_, hrun, hended, _, _, rfl, ?_, ⟨_, rfl⟩, hW, hsame.mono (by decide) (by decide)⟩
  · refine XS.aloadN X0.here hx rfl (hb hby d8_0) rfl rfl ?_
    refine st1 _ ?_
    exact retI X1 hx Bd.returns (hb hby d8_4) hr
  · show Q_sz2 Z oa ea ca kE kC x0 x1 c0 c1 h0 n0 _ T1.heap _
    rw [e1]
    exact ⟨_, rfl, rfl, N0, rfl⟩
theorem ef_rm_e2_0 (m : MethodId) (x0 : Addr) : entryFrame m #[(.ref x0), (.int (0 : Int32))] 2 = mkF m 0 #[.val (.ref x0), .val (.int (0 : Int32))] [] := by first | (simp [entryFrame, mkF, argsToLocals, Value.category]; done) | rfl
def Q_e2_0 (Z : State) (oa : Addr) (ea : Addr) (ca : Addr) (kE : ClassId) (kC : ClassId) (x0 : Int64) (x1 : Int64) (c0 : Int64) (c1 : Int64) (h0 : Heap) (n0 : Nat) (v : Option Value) (h : Heap) (L : List Loc) : Prop := ∃ z : Int64, v = some (.long z) ∧ (z.toInt = x0.toInt) ∧ Fr n0 L ∧ h = h0
set_option maxRecDepth 65536 in
set_option maxHeartbeats 40000000 in
theorem rm_e2_0 (l : Launch) (Z : State) (a0 : Array Value) (hw : ∀ d ∈ tables_1, d.before a0 Z = true) (ws : List Jvm.Cond) (oa : Addr) (ea : Addr) (ca : Addr) (kE : ClassId) (kC : ClassId) (x0 : Int64) (x1 : Int64) (c0 : Int64) (c1 : Int64) (h0 : Heap) (n0 : Nat) (Z0 : n0 ≤ h0.size) (Ea : Exa Z h0 oa "com/example/foreslot/foreslot/CountsByEnd") (F0 : Fld Z h0 oa "com/example/foreslot/foreslot/CountsByEnd" "ends" "[J" (.ref ea)) (F1 : Fld Z h0 oa "com/example/foreslot/foreslot/CountsByEnd" "counts" "[J" (.ref ca)) (F2 : Fld Z h0 oa "com/example/foreslot/foreslot/CountsByEnd" "size" "I" (.int (2 : Int32))) (V0 : Arv Z h0 ea kE .long (16 : Int32) [(.long x0), (.long x1), (.long (0 : Int64)), (.long (0 : Int64))] (.long (0 : Int64))) (V1 : Arv Z h0 ca kC .long (16 : Int32) [(.long c0), (.long c1), (.long (0 : Int64)), (.long (0 : Int64))] (.long (0 : Int64))) :
    MetFree l (⟨"com/example/foreslot/foreslot/CountsByEnd", "end", "(I)J"⟩ : MethodName) (head1 (Jvm.Cond.code (⟨"com/example/foreslot/foreslot/CountsByEnd", "end", "(I)J"⟩ : MethodName) prog_20_method_7_code 2 (some .long) :: ws) ({ frames := 0, cells := 0, slots := 0, locals := 0 } : Room)) (fun a U => a = #[(.ref oa), (.int (0 : Int32))] ∧ Z.Warmed39 U.vm ∧ U.heap = h0) (fun _ _ _ _ _ => True) (fun _ U o U' => ∃ v L, o = .returned v ∧ Q_e2_0 Z oa ea ca kE kC x0 x1 c0 c1 h0 n0 v U'.heap L ∧ FrameEnd U o U' L ({ frames := 0, cells := 0, slots := 0, locals := 0 } : Room).cells ({ frames := 0, cells := 0, slots := 0, locals := 0 } : Room).slots) := by
  refine MetFree.of_bodySF (plainFor_of_name pn_1) hisR ?_
  intro p e s m args below meth c s₁ Bd hml0 hP hK
  obtain ⟨rfl, hZ, hh⟩ := hP
  have hx := Bd.exec
  have hby := Bd.bytes
  have hml : c.maxLocals = 2 := hml0
  have hown : s.vm.findClass "com/example/foreslot/foreslot/CountsByEnd" = some m.cls := findClass_of_methodNamed Bd.named
  have hnm := (name_of_methodNamed Bd.named Bd.method).1
  have X0 : Stand p l e ({ frames := 0, cells := 0, slots := 0, locals := 0 } : Room) s m #[(.ref oa), (.int (0 : Int32))] below meth c s₁ [] 0 0 := Stand.of_body Bd
  have e0 : s₁.heap = h0 := by rw [← hh, Bd.state]; rfl
  have N0 := Fr.nil n0
  have pre0 : ∀ t, Steps p.tables e below (s₁.setTop (mkF m 0 #[.val (.ref oa), .val (.int (0 : Int32))] [])) t → Steps p.tables e below (s₁.setTop (entryFrame m #[(.ref oa), (.int (0 : Int32))] 2)) t := fun t k => castTop (ef_rm_e2_0 m oa) k
  obtain ⟨T1, X1, e1, st1⟩ := getF X0 hx hZ hown (host := "") (Or.inl (hw _ (List.mem_of_getElem? (i := 10) rfl))) Via.refl e0 F0 (g := (mkF m 1 #[.val (.ref oa), .val (.int (0 : Int32))] [(.ref oa)])) rfl rfl (hb hby d9_1)
  obtain ⟨cl2, Ar2, q2, S2, M2, H2, G2⟩ := id V0
  have hin2 : ¬ ((0 : Int32) < 0 ∨ cl2.slots.size ≤ ((0 : Int32)).toNatClampNeg) := inb_of S2 ⟨by decide, by decide⟩
  have hat2 : cl2.slots[((0 : Int32)).toNatClampNeg]? = some (.long x0) := Has.at H2 hin2 rfl
  obtain ⟨fs, hr, hrun, hended, hW, hsame⟩ := X1.leave (v := some (.long x0)) (fun h => by rw [Bd.returns] at h; cases h)
  refine ⟨_, _, pre0 _ ?_, hrun, hended, _, _, rfl, ?_, ⟨_, rfl⟩, hW, hsame.mono (by decide) (by decide)⟩
  · refine XS.aloadN X0.here hx rfl (hb hby d9_0) rfl rfl ?_
    refine st1 _ ?_
    refine XS.iloadN X1.here hx rfl (hb hby d9_4) rfl ?_
    refine X1.laload hx (j := (0 : Int32)) (v := (.long x0)) (by rw [e1]; exact Ar2.1) (State.isArrayOf_alike hZ.alike Ar2.2.1) Ar2.2.2 hin2 hat2 (g := (mkF m 5 #[.val (.ref oa), .val (.int (0 : Int32))] [(.int (0 : Int32)), (.ref ea)])) rfl rfl (hb hby d9_5) _ ?_
    show Steps p.tables e below (T1.setTop (mkF m 6 #[.val (.ref oa), .val (.int (0 : Int32))] [(.long x0)])) _
    jvm_step X1.here [X1.here.top, hx, (hb hby d9_6), X1.method', Bd.returns, narrow]
    first | (intro acts; rw [hr _ acts rfl rfl rfl]) | rw [hr _ _ rfl rfl rfl]
    exact Steps.refl _
  · show Q_e2_0 Z oa ea ca kE kC x0 x1 c0 c1 h0 n0 _ T1.heap _
    rw [e1]
    exact ⟨_, rfl, rfl, N0, rfl⟩
theorem ef_rm_e2_1 (m : MethodId) (x0 : Addr) : entryFrame m #[(.ref x0), (.int (1 : Int32))] 2 = mkF m 0 #[.val (.ref x0), .val (.int (1 : Int32))] [] := by first | (simp [entryFrame, mkF, argsToLocals, Value.category]; done) | rfl
def Q_e2_1 (Z : State) (oa : Addr) (ea : Addr) (ca : Addr) (kE : ClassId) (kC : ClassId) (x0 : Int64) (x1 : Int64) (c0 : Int64) (c1 : Int64) (h0 : Heap) (n0 : Nat) (v : Option Value) (h : Heap) (L : List Loc) : Prop := ∃ z : Int64, v = some (.long z) ∧ (z.toInt = x1.toInt) ∧ Fr n0 L ∧ h = h0
set_option maxRecDepth 65536 in
set_option maxHeartbeats 40000000 in
theorem rm_e2_1 (l : Launch) (Z : State) (a0 : Array Value) (hw : ∀ d ∈ tables_1, d.before a0 Z = true) (ws : List Jvm.Cond) (oa : Addr) (ea : Addr) (ca : Addr) (kE : ClassId) (kC : ClassId) (x0 : Int64) (x1 : Int64) (c0 : Int64) (c1 : Int64) (h0 : Heap) (n0 : Nat) (Z0 : n0 ≤ h0.size) (Ea : Exa Z h0 oa "com/example/foreslot/foreslot/CountsByEnd") (F0 : Fld Z h0 oa "com/example/foreslot/foreslot/CountsByEnd" "ends" "[J" (.ref ea)) (F1 : Fld Z h0 oa "com/example/foreslot/foreslot/CountsByEnd" "counts" "[J" (.ref ca)) (F2 : Fld Z h0 oa "com/example/foreslot/foreslot/CountsByEnd" "size" "I" (.int (2 : Int32))) (V0 : Arv Z h0 ea kE .long (16 : Int32) [(.long x0), (.long x1), (.long (0 : Int64)), (.long (0 : Int64))] (.long (0 : Int64))) (V1 : Arv Z h0 ca kC .long (16 : Int32) [(.long c0), (.long c1), (.long (0 : Int64)), (.long (0 : Int64))] (.long (0 : Int64))) :
    MetFree l (⟨"com/example/foreslot/foreslot/CountsByEnd", "end", "(I)J"⟩ : MethodName) (head1 (Jvm.Cond.code (⟨"com/example/foreslot/foreslot/CountsByEnd", "end", "(I)J"⟩ : MethodName) prog_20_method_7_code 2 (some .long) :: ws) ({ frames := 0, cells := 0, slots := 0, locals := 0 } : Room)) (fun a U => a = #[(.ref oa), (.int (1 : Int32))] ∧ Z.Warmed39 U.vm ∧ U.heap = h0) (fun _ _ _ _ _ => True) (fun _ U o U' => ∃ v L, o = .returned v ∧ Q_e2_1 Z oa ea ca kE kC x0 x1 c0 c1 h0 n0 v U'.heap L ∧ FrameEnd U o U' L ({ frames := 0, cells := 0, slots := 0, locals := 0 } : Room).cells ({ frames := 0, cells := 0, slots := 0, locals := 0 } : Room).slots) := by
  refine MetFree.of_bodySF (plainFor_of_name pn_1) hisR ?_
  intro p e s m args below meth c s₁ Bd hml0 hP hK
  obtain ⟨rfl, hZ, hh⟩ := hP
  have hx := Bd.exec
  have hby := Bd.bytes
  have hml : c.maxLocals = 2 := hml0
  have hown : s.vm.findClass "com/example/foreslot/foreslot/CountsByEnd" = some m.cls := findClass_of_methodNamed Bd.named
  have hnm := (name_of_methodNamed Bd.named Bd.method).1
  have X0 : Stand p l e ({ frames := 0, cells := 0, slots := 0, locals := 0 } : Room) s m #[(.ref oa), (.int (1 : Int32))] below meth c s₁ [] 0 0 := Stand.of_body Bd
  have e0 : s₁.heap = h0 := by rw [← hh, Bd.state]; rfl
  have N0 := Fr.nil n0
  have pre0 : ∀ t, Steps p.tables e below (s₁.setTop (mkF m 0 #[.val (.ref oa), .val (.int (1 : Int32))] [])) t → Steps p.tables e below (s₁.setTop (entryFrame m #[(.ref oa), (.int (1 : Int32))] 2)) t := fun t k => castTop (ef_rm_e2_1 m oa) k
  obtain ⟨T1, X1, e1, st1⟩ := getF X0 hx hZ hown (host := "") (Or.inl (hw _ (List.mem_of_getElem? (i := 10) rfl))) Via.refl e0 F0 (g := (mkF m 1 #[.val (.ref oa), .val (.int (1 : Int32))] [(.ref oa)])) rfl rfl (hb hby d9_1)
  obtain ⟨cl2, Ar2, q2, S2, M2, H2, G2⟩ := id V0
  have hin2 : ¬ ((1 : Int32) < 0 ∨ cl2.slots.size ≤ ((1 : Int32)).toNatClampNeg) := inb_of S2 ⟨by decide, by decide⟩
  have hat2 : cl2.slots[((1 : Int32)).toNatClampNeg]? = some (.long x1) := Has.at H2 hin2 rfl
  obtain ⟨fs, hr, hrun, hended, hW, hsame⟩ := X1.leave (v := some (.long x1)) (fun h => by rw [Bd.returns] at h; cases h)
  refine ⟨_, _, pre0 _ ?_, hrun, hended, _, _, rfl, ?_, ⟨_, rfl⟩, hW, hsame.mono (by decide) (by decide)⟩
  · refine XS.aloadN X0.here hx rfl (hb hby d9_0) rfl rfl ?_
    refine st1 _ ?_
    refine XS.iloadN X1.here hx rfl (hb hby d9_4) rfl ?_
    refine X1.laload hx (j := (1 : Int32)) (v := (.long x1)) (by rw [e1]; exact Ar2.1) (State.isArrayOf_alike hZ.alike Ar2.2.1) Ar2.2.2 hin2 hat2 (g := (mkF m 5 #[.val (.ref oa), .val (.int (1 : Int32))] [(.int (1 : Int32)), (.ref ea)])) rfl rfl (hb hby d9_5) _ ?_
    show Steps p.tables e below (T1.setTop (mkF m 6 #[.val (.ref oa), .val (.int (1 : Int32))] [(.long x1)])) _
    jvm_step X1.here [X1.here.top, hx, (hb hby d9_6), X1.method', Bd.returns, narrow]
    first | (intro acts; rw [hr _ acts rfl rfl rfl]) | rw [hr _ _ rfl rfl rfl]
    exact Steps.refl _
  · show Q_e2_1 Z oa ea ca kE kC x0 x1 c0 c1 h0 n0 _ T1.heap _
    rw [e1]
    exact ⟨_, rfl, rfl, N0, rfl⟩
theorem ef_rm_fr3 (m : MethodId) (x0 : Addr) (x1 : Int64) : entryFrame m #[(.ref x0), (.long x1)] 6 = mkF m 0 #[.val (.ref x0), .val (.long x1), .second, .unset, .unset, .unset] [] := by first | (simp [entryFrame, mkF, argsToLocals, Value.category]; done) | rfl
def Q_fr3 (Z : State) (oa : Addr) (qs : Int64) (ea : Addr) (ca : Addr) (kE : ClassId) (kC : ClassId) (x0 : Int64) (x1 : Int64) (x2 : Int64) (c0 : Int64) (c1 : Int64) (c2 : Int64) (h0 : Heap) (n0 : Nat) (v : Option Value) (h : Heap) (L : List Loc) : Prop := ∃ z : Int32, v = some (.int z) ∧ ((z = (0 : Int32) ∧ qs.toInt ≤ c0.toInt) ∨ (z = (1 : Int32) ∧ c0.toInt < qs.toInt ∧ qs.toInt ≤ c0.toInt + c1.toInt) ∨ (z = (2 : Int32) ∧ c0.toInt + c1.toInt < qs.toInt ∧ qs.toInt ≤ c0.toInt + c1.toInt + c2.toInt) ∨ (z = (3 : Int32) ∧ c0.toInt + c1.toInt + c2.toInt < qs.toInt)) ∧ Fr n0 L ∧ h = h0
set_option maxRecDepth 65536 in
set_option maxHeartbeats 40000000 in
theorem rm_fr3 (l : Launch) (Z : State) (a0 : Array Value) (hw : ∀ d ∈ tables_1, d.before a0 Z = true) (ws : List Jvm.Cond) (oa : Addr) (qs : Int64) (ea : Addr) (ca : Addr) (kE : ClassId) (kC : ClassId) (x0 : Int64) (x1 : Int64) (x2 : Int64) (c0 : Int64) (c1 : Int64) (c2 : Int64) (h0 : Heap) (n0 : Nat) (Z0 : n0 ≤ h0.size) (Ea : Exa Z h0 oa "com/example/foreslot/foreslot/CountsByEnd") (F0 : Fld Z h0 oa "com/example/foreslot/foreslot/CountsByEnd" "ends" "[J" (.ref ea)) (F1 : Fld Z h0 oa "com/example/foreslot/foreslot/CountsByEnd" "counts" "[J" (.ref ca)) (F2 : Fld Z h0 oa "com/example/foreslot/foreslot/CountsByEnd" "size" "I" (.int (3 : Int32))) (V0 : Arv Z h0 ea kE .long (16 : Int32) [(.long x0), (.long x1), (.long x2), (.long (0 : Int64))] (.long (0 : Int64))) (V1 : Arv Z h0 ca kC .long (16 : Int32) [(.long c0), (.long c1), (.long c2), (.long (0 : Int64))] (.long (0 : Int64))) (kc0 : 1 ≤ c0.toInt) (kc1 : 1 ≤ c1.toInt) (kc2 : 1 ≤ c2.toInt) (kt : c0.toInt + c1.toInt + c2.toInt ≤ 100000) :
    MetFree l (⟨"com/example/foreslot/foreslot/CountsByEnd", "firstReaching", "(J)I"⟩ : MethodName) (head1 (Jvm.Cond.code (⟨"com/example/foreslot/foreslot/CountsByEnd", "firstReaching", "(J)I"⟩ : MethodName) prog_20_method_5_code 6 (some .int) :: ws) ({ frames := 0, cells := 0, slots := 0, locals := 0 } : Room)) (fun a U => a = #[(.ref oa), (.long qs)] ∧ Z.Warmed39 U.vm ∧ U.heap = h0) (fun _ _ _ _ _ => True) (fun _ U o U' => ∃ v L, o = .returned v ∧ Q_fr3 Z oa qs ea ca kE kC x0 x1 x2 c0 c1 c2 h0 n0 v U'.heap L ∧ FrameEnd U o U' L ({ frames := 0, cells := 0, slots := 0, locals := 0 } : Room).cells ({ frames := 0, cells := 0, slots := 0, locals := 0 } : Room).slots) := by
  refine MetFree.of_bodySF (plainFor_of_name pn_1) hisR ?_
  intro p e s m args below meth c s₁ Bd hml0 hP hK
  obtain ⟨rfl, hZ, hh⟩ := hP
  have hx := Bd.exec
  have hby := Bd.bytes
  have hml : c.maxLocals = 6 := hml0
  have hown : s.vm.findClass "com/example/foreslot/foreslot/CountsByEnd" = some m.cls := findClass_of_methodNamed Bd.named
  have hnm := (name_of_methodNamed Bd.named Bd.method).1
  have X0 : Stand p l e ({ frames := 0, cells := 0, slots := 0, locals := 0 } : Room) s m #[(.ref oa), (.long qs)] below meth c s₁ [] 0 0 := Stand.of_body Bd
  have e0 : s₁.heap = h0 := by rw [← hh, Bd.state]; rfl
  have N0 := Fr.nil n0
  have pre0 : ∀ t, Steps p.tables e below (s₁.setTop (mkF m 0 #[.val (.ref oa), .val (.long qs), .second, .unset, .unset, .unset] [])) t → Steps p.tables e below (s₁.setTop (entryFrame m #[(.ref oa), (.long qs)] 6)) t := fun t k => castTop (ef_rm_fr3 m oa qs) k
  obtain ⟨T1, X1, e1, st1⟩ := getF X0 hx hZ hown (host := "") (Or.inl (hw _ (List.mem_of_getElem? (i := 19) rfl))) Via.refl e0 F2 (g := (mkF m 8 #[.val (.ref oa), .val (.long qs), .second, .val (.long (0 : Int64)), .second, .val (.int (0 : Int32))] [(.ref oa), (.int (0 : Int32))])) rfl rfl (hb hby d7_8)
  have hc11_2 : (0 : Int) < (3 : Int) := by decide
  obtain ⟨T3, X3, e3, st3⟩ := getF X1 hx hZ hown (host := "") (Or.inl (hw _ (List.mem_of_getElem? (i := 12) rfl))) Via.refl e1 F1 (g := (mkF m 16 #[.val (.ref oa), .val (.long qs), .second, .val (.long (0 : Int64)), .second, .val (.int (0 : Int32))] [(.ref oa), (.long (0 : Int64))])) rfl rfl (hb hby d7_16)
  obtain ⟨cl4, Ar4, q4, S4, M4, H4, G4⟩ := id V1
  have hin4 : ¬ ((0 : Int32) < 0 ∨ cl4.slots.size ≤ ((0 : Int32)).toNatClampNeg) := inb_of S4 ⟨by decide, by decide⟩
  have hat4 : cl4.slots[((0 : Int32)).toNatClampNeg]? = some (.long c0) := Has.at H4 hin4 rfl
  have pre6 : ∀ t, Steps p.tables e below (T3.setTop (mkF m 24 #[.val (.ref oa), .val (.long qs), .second, .val (.long ((0 : Int64) + c0)), .second, .val (.int (0 : Int32))] [])) t → Steps p.tables e below (s₁.setTop (entryFrame m #[(.ref oa), (.long qs)] 6)) t := fun t kt => by
    refine pre0 _ ?_
    refine XS.lconst X0.here hx rfl (hb hby d7_0) ?_
    refine XS.lstoreN X0.here hx rfl (hb hby d7_1) rfl (l' := #[.val (.ref oa), .val (.long qs), .second, .val (.long (0 : Int64)), .second, .unset]) rfl ?_
    refine XS.iconst X0.here hx rfl (hb hby d7_2) ?_
    refine XS.istore X0.here hx rfl (hb hby d7_3) rfl (l' := #[.val (.ref oa), .val (.long qs), .second, .val (.long (0 : Int64)), .second, .val (.int (0 : Int32))]) rfl ?_
    show Steps p.tables e below (s₁.setTop (mkF m 5 #[.val (.ref oa), .val (.long qs), .second, .val (.long (0 : Int64)), .second, .val (.int (0 : Int32))] [])) _
    refine XS.iload X0.here hx rfl (hb hby d7_5) rfl ?_
    refine XS.aloadN X0.here hx rfl (hb hby d7_7) rfl rfl ?_
    refine st1 _ ?_
    refine XS.icmpNo X1.here hx rfl (hb hby d7_11) rfl (own_tlt (a := (0 : Int32)) (b := (3 : Int32)) (by decide) (by decide) hc11_2).2.1 ?_
    refine XS.lloadN X1.here hx rfl (hb hby d7_14) rfl ?_
    show Steps p.tables e below (T1.setTop (mkF m 15 #[.val (.ref oa), .val (.long qs), .second, .val (.long (0 : Int64)), .second, .val (.int (0 : Int32))] [(.long (0 : Int64))])) _
    refine XS.aloadN X1.here hx rfl (hb hby d7_15) rfl rfl ?_
    refine st3 _ ?_
    refine XS.iload X3.here hx rfl (hb hby d7_19) rfl ?_
    refine X3.laload hx (j := (0 : Int32)) (v := (.long c0)) (by rw [e3]; exact Ar4.1) (State.isArrayOf_alike hZ.alike Ar4.2.1) Ar4.2.2 hin4 hat4 (g := (mkF m 21 #[.val (.ref oa), .val (.long qs), .second, .val (.long (0 : Int64)), .second, .val (.int (0 : Int32))] [(.int (0 : Int32)), (.ref ca), (.long (0 : Int64))])) rfl rfl (hb hby d7_21) _ ?_
    refine XS.ladd X3.here hx rfl (hb hby d7_22) rfl ?_
    show Steps p.tables e below (T3.setTop (mkF m 23 #[.val (.ref oa), .val (.long qs), .second, .val (.long (0 : Int64)), .second, .val (.int (0 : Int32))] [(.long ((0 : Int64) + c0))])) _
    refine XS.lstoreN X3.here hx rfl (hb hby d7_23) rfl (l' := #[.val (.ref oa), .val (.long qs), .second, .val (.long ((0 : Int64) + c0)), .second, .val (.int (0 : Int32))]) rfl ?_
    exact kt
  obtain ⟨hd0_5, hhd0_5⟩ : ∃ z : Int64, z = ((0 : Int64) + c0) := ⟨_, rfl⟩
  have ihd0_5 : hd0_5.toInt = c0.toInt := by rw [hhd0_5]; have := rng64 c0; (first | (have : (((0 : Int64) + c0)).toInt = (0 : Int) + c0.toInt := (by have : ((((0 : Int64) + c0)).toInt - ((0 : Int) + c0.toInt)) % 18446744073709551616 = 0 := c_ladd (0 : Int64) c0; have := rng64 ((0 : Int64) + c0); omega)) | (have : ((((0 : Int64) + c0)).toInt - ((0 : Int) + c0.toInt)) % 18446744073709551616 = 0 := c_ladd (0 : Int64) c0; have := rng64 ((0 : Int64) + c0))); omega
  have pre7 : ∀ t, Steps p.tables e below (T3.setTop (mkF m 24 #[.val (.ref oa), .val (.long qs), .second, .val (.long hd0_5), .second, .val (.int (0 : Int32))] [])) t → Steps p.tables e below (s₁.setTop (entryFrame m #[(.ref oa), (.long qs)] 6)) t := by rw [hhd0_5]; exact pre6
  have pre9 : ∀ t, Steps p.tables e below (T3.setTop (mkF m 27 #[.val (.ref oa), .val (.long qs), .second, .val (.long hd0_5), .second, .val (.int (0 : Int32))] [(.int (lcmpW hd0_5 qs))])) t → Steps p.tables e below (s₁.setTop (entryFrame m #[(.ref oa), (.long qs)] 6)) t := fun t kt => by
    refine pre7 _ ?_
    refine XS.lloadN X3.here hx rfl (hb hby d7_24) rfl ?_
    refine XS.lloadN X3.here hx rfl (hb hby d7_25) rfl ?_
    refine XS.lcmp X3.here hx rfl (hb hby d7_26) rfl ?_
    exact kt
  by_cases hc27_8 : hd0_5.toInt < qs.toInt
  · obtain ⟨T10, X10, e10, st10⟩ := getF X3 hx hZ hown (host := "") (Or.inl (hw _ (List.mem_of_getElem? (i := 19) rfl))) Via.refl e3 F2 (g := (mkF m 8 #[.val (.ref oa), .val (.long qs), .second, .val (.long hd0_5), .second, .val (.int (1 : Int32))] [(.ref oa), (.int (1 : Int32))])) rfl rfl (hb hby d7_8)
    have hc11_11 : (1 : Int) < (3 : Int) := by decide
    obtain ⟨T12, X12, e12, st12⟩ := getF X10 hx hZ hown (host := "") (Or.inl (hw _ (List.mem_of_getElem? (i := 12) rfl))) Via.refl e10 F1 (g := (mkF m 16 #[.val (.ref oa), .val (.long qs), .second, .val (.long hd0_5), .second, .val (.int (1 : Int32))] [(.ref oa), (.long hd0_5)])) rfl rfl (hb hby d7_16)
    obtain ⟨cl13, Ar13, q13, S13, M13, H13, G13⟩ := id V1
    have hin13 : ¬ ((1 : Int32) < 0 ∨ cl13.slots.size ≤ ((1 : Int32)).toNatClampNeg) := inb_of S13 ⟨by decide, by decide⟩
    have hat13 : cl13.slots[((1 : Int32)).toNatClampNeg]? = some (.long c1) := Has.at H13 hin13 rfl
    have pre15 : ∀ t, Steps p.tables e below (T12.setTop (mkF m 24 #[.val (.ref oa), .val (.long qs), .second, .val (.long (hd0_5 + c1)), .second, .val (.int (1 : Int32))] [])) t → Steps p.tables e below (s₁.setTop (entryFrame m #[(.ref oa), (.long qs)] 6)) t := fun t kt => by
      refine pre9 _ ?_
      show Steps p.tables e below (T3.setTop (mkF m 27 #[.val (.ref oa), .val (.long qs), .second, .val (.long hd0_5), .second, .val (.int (0 : Int32))] [(.int (lcmpW hd0_5 qs))])) _
      refine XS.ifYes X3.here hx rfl (pc0 := 27) (pc' := 33) rfl (hb hby d7_27) rfl (own_if (own_tltL (x := hd0_5) (y := qs) rfl rfl hc27_8).1) (by decide) (by decide) ?_
      refine XS.iinc X3.here hx rfl (hb hby d7_33) rfl (l' := #[.val (.ref oa), .val (.long qs), .second, .val (.long hd0_5), .second, .val (.int (1 : Int32))]) rfl ?_
      refine XS.goto X3.here hx rfl (pc0 := 36) (pc' := 5) rfl (hb hby d7_36) (by decide) (by decide) ?_
      refine XS.iload X3.here hx rfl (hb hby d7_5) rfl ?_
      refine XS.aloadN X3.here hx rfl (hb hby d7_7) rfl rfl ?_
      show Steps p.tables e below (T3.setTop (mkF m 8 #[.val (.ref oa), .val (.long qs), .second, .val (.long hd0_5), .second, .val (.int (1 : Int32))] [(.ref oa), (.int (1 : Int32))])) _
      refine st10 _ ?_
      refine XS.icmpNo X10.here hx rfl (hb hby d7_11) rfl (own_tlt (a := (1 : Int32)) (b := (3 : Int32)) (by decide) (by decide) hc11_11).2.1 ?_
      refine XS.lloadN X10.here hx rfl (hb hby d7_14) rfl ?_
      refine XS.aloadN X10.here hx rfl (hb hby d7_15) rfl rfl ?_
      refine st12 _ ?_
      show Steps p.tables e below (T12.setTop (mkF m 19 #[.val (.ref oa), .val (.long qs), .second, .val (.long hd0_5), .second, .val (.int (1 : Int32))] [(.ref ca), (.long hd0_5)])) _
      refine XS.iload X12.here hx rfl (hb hby d7_19) rfl ?_
      refine X12.laload hx (j := (1 : Int32)) (v := (.long c1)) (by rw [e12]; exact Ar13.1) (State.isArrayOf_alike hZ.alike Ar13.2.1) Ar13.2.2 hin13 hat13 (g := (mkF m 21 #[.val (.ref oa), .val (.long qs), .second, .val (.long hd0_5), .second, .val (.int (1 : Int32))] [(.int (1 : Int32)), (.ref ca), (.long hd0_5)])) rfl rfl (hb hby d7_21) _ ?_
      refine XS.ladd X12.here hx rfl (hb hby d7_22) rfl ?_
      refine XS.lstoreN X12.here hx rfl (hb hby d7_23) rfl (l' := #[.val (.ref oa), .val (.long qs), .second, .val (.long (hd0_5 + c1)), .second, .val (.int (1 : Int32))]) rfl ?_
      exact kt
    obtain ⟨hd1_14, hhd1_14⟩ : ∃ z : Int64, z = (hd0_5 + c1) := ⟨_, rfl⟩
    have ihd1_14 : hd1_14.toInt = c0.toInt + c1.toInt := by rw [hhd1_14]; have := rng64 hd0_5; have := rng64 c1; (first | (have : ((hd0_5 + c1)).toInt = hd0_5.toInt + c1.toInt := (by have : (((hd0_5 + c1)).toInt - (hd0_5.toInt + c1.toInt)) % 18446744073709551616 = 0 := c_ladd hd0_5 c1; have := rng64 (hd0_5 + c1); omega)) | (have : (((hd0_5 + c1)).toInt - (hd0_5.toInt + c1.toInt)) % 18446744073709551616 = 0 := c_ladd hd0_5 c1; have := rng64 (hd0_5 + c1))); omega
    have pre16 : ∀ t, Steps p.tables e below (T12.setTop (mkF m 24 #[.val (.ref oa), .val (.long qs), .second, .val (.long hd1_14), .second, .val (.int (1 : Int32))] [])) t → Steps p.tables e below (s₁.setTop (entryFrame m #[(.ref oa), (.long qs)] 6)) t := by rw [hhd1_14]; exact pre15
    have pre18 : ∀ t, Steps p.tables e below (T12.setTop (mkF m 27 #[.val (.ref oa), .val (.long qs), .second, .val (.long hd1_14), .second, .val (.int (1 : Int32))] [(.int (lcmpW hd1_14 qs))])) t → Steps p.tables e below (s₁.setTop (entryFrame m #[(.ref oa), (.long qs)] 6)) t := fun t kt => by
      refine pre16 _ ?_
      refine XS.lloadN X12.here hx rfl (hb hby d7_24) rfl ?_
      show Steps p.tables e below (T12.setTop (mkF m 25 #[.val (.ref oa), .val (.long qs), .second, .val (.long hd1_14), .second, .val (.int (1 : Int32))] [(.long hd1_14)])) _
      refine XS.lloadN X12.here hx rfl (hb hby d7_25) rfl ?_
      refine XS.lcmp X12.here hx rfl (hb hby d7_26) rfl ?_
      exact kt
    by_cases hc27_17 : hd1_14.toInt < qs.toInt
    · obtain ⟨T19, X19, e19, st19⟩ := getF X12 hx hZ hown (host := "") (Or.inl (hw _ (List.mem_of_getElem? (i := 19) rfl))) Via.refl e12 F2 (g := (mkF m 8 #[.val (.ref oa), .val (.long qs), .second, .val (.long hd1_14), .second, .val (.int (2 : Int32))] [(.ref oa), (.int (2 : Int32))])) rfl rfl (hb hby d7_8)
      have hc11_20 : (2 : Int) < (3 : Int) := by decide
      obtain ⟨T21, X21, e21, st21⟩ := getF X19 hx hZ hown (host := "") (Or.inl (hw _ (List.mem_of_getElem? (i := 12) rfl))) Via.refl e19 F1 (g := (mkF m 16 #[.val (.ref oa), .val (.long qs), .second, .val (.long hd1_14), .second, .val (.int (2 : Int32))] [(.ref oa), (.long hd1_14)])) rfl rfl (hb hby d7_16)
      obtain ⟨cl22, Ar22, q22, S22, M22, H22, G22⟩ := id V1
      have hin22 : ¬ ((2 : Int32) < 0 ∨ cl22.slots.size ≤ ((2 : Int32)).toNatClampNeg) := inb_of S22 ⟨by decide, by decide⟩
      have hat22 : cl22.slots[((2 : Int32)).toNatClampNeg]? = some (.long c2) := Has.at H22 hin22 rfl
      have pre24 : ∀ t, Steps p.tables e below (T21.setTop (mkF m 24 #[.val (.ref oa), .val (.long qs), .second, .val (.long (hd1_14 + c2)), .second, .val (.int (2 : Int32))] [])) t → Steps p.tables e below (s₁.setTop (entryFrame m #[(.ref oa), (.long qs)] 6)) t := fun t kt => by
        refine pre18 _ ?_
        show Steps p.tables e below (T12.setTop (mkF m 27 #[.val (.ref oa), .val (.long qs), .second, .val (.long hd1_14), .second, .val (.int (1 : Int32))] [(.int (lcmpW hd1_14 qs))])) _
        refine XS.ifYes X12.here hx rfl (pc0 := 27) (pc' := 33) rfl (hb hby d7_27) rfl (own_if (own_tltL (x := hd1_14) (y := qs) rfl rfl hc27_17).1) (by decide) (by decide) ?_
        refine XS.iinc X12.here hx rfl (hb hby d7_33) rfl (l' := #[.val (.ref oa), .val (.long qs), .second, .val (.long hd1_14), .second, .val (.int (2 : Int32))]) rfl ?_
        show Steps p.tables e below (T12.setTop (mkF m 36 #[.val (.ref oa), .val (.long qs), .second, .val (.long hd1_14), .second, .val (.int (2 : Int32))] [])) _
        refine XS.goto X12.here hx rfl (pc0 := 36) (pc' := 5) rfl (hb hby d7_36) (by decide) (by decide) ?_
        refine XS.iload X12.here hx rfl (hb hby d7_5) rfl ?_
        refine XS.aloadN X12.here hx rfl (hb hby d7_7) rfl rfl ?_
        refine st19 _ ?_
        refine XS.icmpNo X19.here hx rfl (hb hby d7_11) rfl (own_tlt (a := (2 : Int32)) (b := (3 : Int32)) (by decide) (by decide) hc11_20).2.1 ?_
        show Steps p.tables e below (T19.setTop (mkF m 14 #[.val (.ref oa), .val (.long qs), .second, .val (.long hd1_14), .second, .val (.int (2 : Int32))] [])) _
        refine XS.lloadN X19.here hx rfl (hb hby d7_14) rfl ?_
        refine XS.aloadN X19.here hx rfl (hb hby d7_15) rfl rfl ?_
        refine st21 _ ?_
        refine XS.iload X21.here hx rfl (hb hby d7_19) rfl ?_
        refine X21.laload hx (j := (2 : Int32)) (v := (.long c2)) (by rw [e21]; exact Ar22.1) (State.isArrayOf_alike hZ.alike Ar22.2.1) Ar22.2.2 hin22 hat22 (g := (mkF m 21 #[.val (.ref oa), .val (.long qs), .second, .val (.long hd1_14), .second, .val (.int (2 : Int32))] [(.int (2 : Int32)), (.ref ca), (.long hd1_14)])) rfl rfl (hb hby d7_21) _ ?_
        show Steps p.tables e below (T21.setTop (mkF m 22 #[.val (.ref oa), .val (.long qs), .second, .val (.long hd1_14), .second, .val (.int (2 : Int32))] [(.long c2), (.long hd1_14)])) _
        refine XS.ladd X21.here hx rfl (hb hby d7_22) rfl ?_
        refine XS.lstoreN X21.here hx rfl (hb hby d7_23) rfl (l' := #[.val (.ref oa), .val (.long qs), .second, .val (.long (hd1_14 + c2)), .second, .val (.int (2 : Int32))]) rfl ?_
        exact kt
      obtain ⟨hd2_23, hhd2_23⟩ : ∃ z : Int64, z = (hd1_14 + c2) := ⟨_, rfl⟩
      have ihd2_23 : hd2_23.toInt = c0.toInt + c1.toInt + c2.toInt := by rw [hhd2_23]; have := rng64 hd1_14; have := rng64 c2; (first | (have : ((hd1_14 + c2)).toInt = hd1_14.toInt + c2.toInt := (by have : (((hd1_14 + c2)).toInt - (hd1_14.toInt + c2.toInt)) % 18446744073709551616 = 0 := c_ladd hd1_14 c2; have := rng64 (hd1_14 + c2); omega)) | (have : (((hd1_14 + c2)).toInt - (hd1_14.toInt + c2.toInt)) % 18446744073709551616 = 0 := c_ladd hd1_14 c2; have := rng64 (hd1_14 + c2))); omega
      have pre25 : ∀ t, Steps p.tables e below (T21.setTop (mkF m 24 #[.val (.ref oa), .val (.long qs), .second, .val (.long hd2_23), .second, .val (.int (2 : Int32))] [])) t → Steps p.tables e below (s₁.setTop (entryFrame m #[(.ref oa), (.long qs)] 6)) t := by rw [hhd2_23]; exact pre24
      have pre27 : ∀ t, Steps p.tables e below (T21.setTop (mkF m 27 #[.val (.ref oa), .val (.long qs), .second, .val (.long hd2_23), .second, .val (.int (2 : Int32))] [(.int (lcmpW hd2_23 qs))])) t → Steps p.tables e below (s₁.setTop (entryFrame m #[(.ref oa), (.long qs)] 6)) t := fun t kt => by
        refine pre25 _ ?_
        refine XS.lloadN X21.here hx rfl (hb hby d7_24) rfl ?_
        refine XS.lloadN X21.here hx rfl (hb hby d7_25) rfl ?_
        refine XS.lcmp X21.here hx rfl (hb hby d7_26) rfl ?_
        exact kt
      by_cases hc27_26 : hd2_23.toInt < qs.toInt
      · obtain ⟨T28, X28, e28, st28⟩ := getF X21 hx hZ hown (host := "") (Or.inl (hw _ (List.mem_of_getElem? (i := 19) rfl))) Via.refl e21 F2 (g := (mkF m 8 #[.val (.ref oa), .val (.long qs), .second, .val (.long hd2_23), .second, .val (.int (3 : Int32))] [(.ref oa), (.int (3 : Int32))])) rfl rfl (hb hby d7_8)
        have hc11_29 : ¬ ((3 : Int) < (3 : Int)) := by decide
        obtain ⟨T30, X30, e30, st30⟩ := getF X28 hx hZ hown (host := "") (Or.inl (hw _ (List.mem_of_getElem? (i := 19) rfl))) Via.refl e28 F2 (g := (mkF m 40 #[.val (.ref oa), .val (.long qs), .second, .val (.long hd2_23), .second, .val (.int (3 : Int32))] [(.ref oa)])) rfl rfl (hb hby d7_40)
        obtain ⟨fs, hr, hrun, hended, hW, hsame⟩ := X30.leave (v := some (.int (3 : Int32))) (fun h => by rw [Bd.returns] at h; cases h)
        refine ⟨_, _, pre27 _ ?_, hrun, hended, _, _, rfl, ?_, ⟨_, rfl⟩, hW, hsame.mono (by decide) (by decide)⟩
        · show Steps p.tables e below (T21.setTop (mkF m 27 #[.val (.ref oa), .val (.long qs), .second, .val (.long hd2_23), .second, .val (.int (2 : Int32))] [(.int (lcmpW hd2_23 qs))])) _
          refine XS.ifYes X21.here hx rfl (pc0 := 27) (pc' := 33) rfl (hb hby d7_27) rfl (own_if (own_tltL (x := hd2_23) (y := qs) rfl rfl hc27_26).1) (by decide) (by decide) ?_
          refine XS.iinc X21.here hx rfl (hb hby d7_33) rfl (l' := #[.val (.ref oa), .val (.long qs), .second, .val (.long hd2_23), .second, .val (.int (3 : Int32))]) rfl ?_
          refine XS.goto X21.here hx rfl (pc0 := 36) (pc' := 5) rfl (hb hby d7_36) (by decide) (by decide) ?_
          refine XS.iload X21.here hx rfl (hb hby d7_5) rfl ?_
          show Steps p.tables e below (T21.setTop (mkF m 7 #[.val (.ref oa), .val (.long qs), .second, .val (.long hd2_23), .second, .val (.int (3 : Int32))] [(.int (3 : Int32))])) _
          refine XS.aloadN X21.here hx rfl (hb hby d7_7) rfl rfl ?_
          refine st28 _ ?_
          refine XS.icmpYes X28.here hx rfl (pc0 := 11) (pc' := 39) rfl (hb hby d7_11) rfl (own_flt (a := (3 : Int32)) (b := (3 : Int32)) (by decide) (by decide) hc11_29).2.1 (by decide) (by decide) ?_
          refine XS.aloadN X28.here hx rfl (hb hby d7_39) rfl rfl ?_
          refine st30 _ ?_
          show Steps p.tables e below (T30.setTop (mkF m 43 #[.val (.ref oa), .val (.long qs), .second, .val (.long hd2_23), .second, .val (.int (3 : Int32))] [(.int (3 : Int32))])) _
          exact retI X30 hx Bd.returns (hb hby d7_43) hr
        · show Q_fr3 Z oa qs ea ca kE kC x0 x1 x2 c0 c1 c2 h0 n0 _ T30.heap _
          rw [e30]
          exact ⟨_, rfl, Or.inr (Or.inr (Or.inr (⟨rfl, by omega⟩))), N0, rfl⟩
      · obtain ⟨fs, hr, hrun, hended, hW, hsame⟩ := X21.leave (v := some (.int (2 : Int32))) (fun h => by rw [Bd.returns] at h; cases h)
        refine ⟨_, _, pre27 _ ?_, hrun, hended, _, _, rfl, ?_, ⟨_, rfl⟩, hW, hsame.mono (by decide) (by decide)⟩
        · show Steps p.tables e below (T21.setTop (mkF m 27 #[.val (.ref oa), .val (.long qs), .second, .val (.long hd2_23), .second, .val (.int (2 : Int32))] [(.int (lcmpW hd2_23 qs))])) _
          refine XS.ifNo X21.here hx rfl (hb hby d7_27) rfl (own_if (own_fltL (x := hd2_23) (y := qs) rfl rfl hc27_26).1) ?_
          refine XS.iload X21.here hx rfl (hb hby d7_30) rfl ?_
          exact retI X21 hx Bd.returns (hb hby d7_32) hr
        · show Q_fr3 Z oa qs ea ca kE kC x0 x1 x2 c0 c1 c2 h0 n0 _ T21.heap _
          rw [e21]
          exact ⟨_, rfl, Or.inr (Or.inr (Or.inl ⟨rfl, by omega, by omega⟩)), N0, rfl⟩
    · obtain ⟨fs, hr, hrun, hended, hW, hsame⟩ := X12.leave (v := some (.int (1 : Int32))) (fun h => by rw [Bd.returns] at h; cases h)
      refine ⟨_, _, pre18 _ ?_, hrun, hended, _, _, rfl, ?_, ⟨_, rfl⟩, hW, hsame.mono (by decide) (by decide)⟩
      · show Steps p.tables e below (T12.setTop (mkF m 27 #[.val (.ref oa), .val (.long qs), .second, .val (.long hd1_14), .second, .val (.int (1 : Int32))] [(.int (lcmpW hd1_14 qs))])) _
        refine XS.ifNo X12.here hx rfl (hb hby d7_27) rfl (own_if (own_fltL (x := hd1_14) (y := qs) rfl rfl hc27_17).1) ?_
        refine XS.iload X12.here hx rfl (hb hby d7_30) rfl ?_
        show Steps p.tables e below (T12.setTop (mkF m 32 #[.val (.ref oa), .val (.long qs), .second, .val (.long hd1_14), .second, .val (.int (1 : Int32))] [(.int (1 : Int32))])) _
        exact retI X12 hx Bd.returns (hb hby d7_32) hr
      · show Q_fr3 Z oa qs ea ca kE kC x0 x1 x2 c0 c1 c2 h0 n0 _ T12.heap _
        rw [e12]
        exact ⟨_, rfl, Or.inr (Or.inl ⟨rfl, by omega, by omega⟩), N0, rfl⟩
  · obtain ⟨fs, hr, hrun, hended, hW, hsame⟩ := X3.leave (v := some (.int (0 : Int32))) (fun h => by rw [Bd.returns] at h; cases h)
    refine ⟨_, _, pre9 _ ?_, hrun, hended, _, _, rfl, ?_, ⟨_, rfl⟩, hW, hsame.mono (by decide) (by decide)⟩
    · show Steps p.tables e below (T3.setTop (mkF m 27 #[.val (.ref oa), .val (.long qs), .second, .val (.long hd0_5), .second, .val (.int (0 : Int32))] [(.int (lcmpW hd0_5 qs))])) _
      refine XS.ifNo X3.here hx rfl (hb hby d7_27) rfl (own_if (own_fltL (x := hd0_5) (y := qs) rfl rfl hc27_8).1) ?_
      refine XS.iload X3.here hx rfl (hb hby d7_30) rfl ?_
      exact retI X3 hx Bd.returns (hb hby d7_32) hr
    · show Q_fr3 Z oa qs ea ca kE kC x0 x1 x2 c0 c1 c2 h0 n0 _ T3.heap _
      rw [e3]
      exact ⟨_, rfl, Or.inl ⟨rfl, by omega⟩, N0, rfl⟩
theorem ef_rm_sz3 (m : MethodId) (x0 : Addr) : entryFrame m #[(.ref x0)] 1 = mkF m 0 #[.val (.ref x0)] [] := by first | (simp [entryFrame, mkF, argsToLocals, Value.category]; done) | rfl
def Q_sz3 (Z : State) (oa : Addr) (ea : Addr) (ca : Addr) (kE : ClassId) (kC : ClassId) (x0 : Int64) (x1 : Int64) (x2 : Int64) (c0 : Int64) (c1 : Int64) (c2 : Int64) (h0 : Heap) (n0 : Nat) (v : Option Value) (h : Heap) (L : List Loc) : Prop := ∃ z : Int32, v = some (.int z) ∧ (z = (3 : Int32)) ∧ Fr n0 L ∧ h = h0
set_option maxRecDepth 65536 in
set_option maxHeartbeats 40000000 in
theorem rm_sz3 (l : Launch) (Z : State) (a0 : Array Value) (hw : ∀ d ∈ tables_1, d.before a0 Z = true) (ws : List Jvm.Cond) (oa : Addr) (ea : Addr) (ca : Addr) (kE : ClassId) (kC : ClassId) (x0 : Int64) (x1 : Int64) (x2 : Int64) (c0 : Int64) (c1 : Int64) (c2 : Int64) (h0 : Heap) (n0 : Nat) (Z0 : n0 ≤ h0.size) (Ea : Exa Z h0 oa "com/example/foreslot/foreslot/CountsByEnd") (F0 : Fld Z h0 oa "com/example/foreslot/foreslot/CountsByEnd" "ends" "[J" (.ref ea)) (F1 : Fld Z h0 oa "com/example/foreslot/foreslot/CountsByEnd" "counts" "[J" (.ref ca)) (F2 : Fld Z h0 oa "com/example/foreslot/foreslot/CountsByEnd" "size" "I" (.int (3 : Int32))) (V0 : Arv Z h0 ea kE .long (16 : Int32) [(.long x0), (.long x1), (.long x2), (.long (0 : Int64))] (.long (0 : Int64))) (V1 : Arv Z h0 ca kC .long (16 : Int32) [(.long c0), (.long c1), (.long c2), (.long (0 : Int64))] (.long (0 : Int64))) :
    MetFree l (⟨"com/example/foreslot/foreslot/CountsByEnd", "size", "()I"⟩ : MethodName) (head1 (Jvm.Cond.code (⟨"com/example/foreslot/foreslot/CountsByEnd", "size", "()I"⟩ : MethodName) prog_20_method_6_code 1 (some .int) :: ws) ({ frames := 0, cells := 0, slots := 0, locals := 0 } : Room)) (fun a U => a = #[(.ref oa)] ∧ Z.Warmed39 U.vm ∧ U.heap = h0) (fun _ _ _ _ _ => True) (fun _ U o U' => ∃ v L, o = .returned v ∧ Q_sz3 Z oa ea ca kE kC x0 x1 x2 c0 c1 c2 h0 n0 v U'.heap L ∧ FrameEnd U o U' L ({ frames := 0, cells := 0, slots := 0, locals := 0 } : Room).cells ({ frames := 0, cells := 0, slots := 0, locals := 0 } : Room).slots) := by
  refine MetFree.of_bodySF (plainFor_of_name pn_1) hisR ?_
  intro p e s m args below meth c s₁ Bd hml0 hP hK
  obtain ⟨rfl, hZ, hh⟩ := hP
  have hx := Bd.exec
  have hby := Bd.bytes
  have hml : c.maxLocals = 1 := hml0
  have hown : s.vm.findClass "com/example/foreslot/foreslot/CountsByEnd" = some m.cls := findClass_of_methodNamed Bd.named
  have hnm := (name_of_methodNamed Bd.named Bd.method).1
  have X0 : Stand p l e ({ frames := 0, cells := 0, slots := 0, locals := 0 } : Room) s m #[(.ref oa)] below meth c s₁ [] 0 0 := Stand.of_body Bd
  have e0 : s₁.heap = h0 := by rw [← hh, Bd.state]; rfl
  have N0 := Fr.nil n0
  have pre0 : ∀ t, Steps p.tables e below (s₁.setTop (mkF m 0 #[.val (.ref oa)] [])) t → Steps p.tables e below (s₁.setTop (entryFrame m #[(.ref oa)] 1)) t := fun t k => castTop (ef_rm_sz3 m oa) k
  obtain ⟨T1, X1, e1, st1⟩ := getF X0 hx hZ hown (host := "") (Or.inl (hw _ (List.mem_of_getElem? (i := 19) rfl))) Via.refl e0 F2 (g := (mkF m 1 #[.val (.ref oa)] [(.ref oa)])) rfl rfl (hb hby d8_1)
  obtain ⟨fs, hr, hrun, hended, hW, hsame⟩ := X1.leave (v := some (.int (3 : Int32))) (fun h => by rw [Bd.returns] at h; cases h)
  refine ⟨_, _, pre0 _ ?_, hrun, hended, _, _, rfl, ?_, ⟨_, rfl⟩, hW, hsame.mono (by decide) (by decide)⟩
  · refine XS.aloadN X0.here hx rfl (hb hby d8_0) rfl rfl ?_
    refine st1 _ ?_
    exact retI X1 hx Bd.returns (hb hby d8_4) hr
  · show Q_sz3 Z oa ea ca kE kC x0 x1 x2 c0 c1 c2 h0 n0 _ T1.heap _
    rw [e1]
    exact ⟨_, rfl, rfl, N0, rfl⟩
theorem ef_rm_e3_0 (m : MethodId) (x0 : Addr) : entryFrame m #[(.ref x0), (.int (0 : Int32))] 2 = mkF m 0 #[.val (.ref x0), .val (.int (0 : Int32))] [] := by first | (simp [entryFrame, mkF, argsToLocals, Value.category]; done) | rfl
def Q_e3_0 (Z : State) (oa : Addr) (ea : Addr) (ca : Addr) (kE : ClassId) (kC : ClassId) (x0 : Int64) (x1 : Int64) (x2 : Int64) (c0 : Int64) (c1 : Int64) (c2 : Int64) (h0 : Heap) (n0 : Nat) (v : Option Value) (h : Heap) (L : List Loc) : Prop := ∃ z : Int64, v = some (.long z) ∧ (z.toInt = x0.toInt) ∧ Fr n0 L ∧ h = h0
set_option maxRecDepth 65536 in
set_option maxHeartbeats 40000000 in
theorem rm_e3_0 (l : Launch) (Z : State) (a0 : Array Value) (hw : ∀ d ∈ tables_1, d.before a0 Z = true) (ws : List Jvm.Cond) (oa : Addr) (ea : Addr) (ca : Addr) (kE : ClassId) (kC : ClassId) (x0 : Int64) (x1 : Int64) (x2 : Int64) (c0 : Int64) (c1 : Int64) (c2 : Int64) (h0 : Heap) (n0 : Nat) (Z0 : n0 ≤ h0.size) (Ea : Exa Z h0 oa "com/example/foreslot/foreslot/CountsByEnd") (F0 : Fld Z h0 oa "com/example/foreslot/foreslot/CountsByEnd" "ends" "[J" (.ref ea)) (F1 : Fld Z h0 oa "com/example/foreslot/foreslot/CountsByEnd" "counts" "[J" (.ref ca)) (F2 : Fld Z h0 oa "com/example/foreslot/foreslot/CountsByEnd" "size" "I" (.int (3 : Int32))) (V0 : Arv Z h0 ea kE .long (16 : Int32) [(.long x0), (.long x1), (.long x2), (.long (0 : Int64))] (.long (0 : Int64))) (V1 : Arv Z h0 ca kC .long (16 : Int32) [(.long c0), (.long c1), (.long c2), (.long (0 : Int64))] (.long (0 : Int64))) :
    MetFree l (⟨"com/example/foreslot/foreslot/CountsByEnd", "end", "(I)J"⟩ : MethodName) (head1 (Jvm.Cond.code (⟨"com/example/foreslot/foreslot/CountsByEnd", "end", "(I)J"⟩ : MethodName) prog_20_method_7_code 2 (some .long) :: ws) ({ frames := 0, cells := 0, slots := 0, locals := 0 } : Room)) (fun a U => a = #[(.ref oa), (.int (0 : Int32))] ∧ Z.Warmed39 U.vm ∧ U.heap = h0) (fun _ _ _ _ _ => True) (fun _ U o U' => ∃ v L, o = .returned v ∧ Q_e3_0 Z oa ea ca kE kC x0 x1 x2 c0 c1 c2 h0 n0 v U'.heap L ∧ FrameEnd U o U' L ({ frames := 0, cells := 0, slots := 0, locals := 0 } : Room).cells ({ frames := 0, cells := 0, slots := 0, locals := 0 } : Room).slots) := by
  refine MetFree.of_bodySF (plainFor_of_name pn_1) hisR ?_
  intro p e s m args below meth c s₁ Bd hml0 hP hK
  obtain ⟨rfl, hZ, hh⟩ := hP
  have hx := Bd.exec
  have hby := Bd.bytes
  have hml : c.maxLocals = 2 := hml0
  have hown : s.vm.findClass "com/example/foreslot/foreslot/CountsByEnd" = some m.cls := findClass_of_methodNamed Bd.named
  have hnm := (name_of_methodNamed Bd.named Bd.method).1
  have X0 : Stand p l e ({ frames := 0, cells := 0, slots := 0, locals := 0 } : Room) s m #[(.ref oa), (.int (0 : Int32))] below meth c s₁ [] 0 0 := Stand.of_body Bd
  have e0 : s₁.heap = h0 := by rw [← hh, Bd.state]; rfl
  have N0 := Fr.nil n0
  have pre0 : ∀ t, Steps p.tables e below (s₁.setTop (mkF m 0 #[.val (.ref oa), .val (.int (0 : Int32))] [])) t → Steps p.tables e below (s₁.setTop (entryFrame m #[(.ref oa), (.int (0 : Int32))] 2)) t := fun t k => castTop (ef_rm_e3_0 m oa) k
  obtain ⟨T1, X1, e1, st1⟩ := getF X0 hx hZ hown (host := "") (Or.inl (hw _ (List.mem_of_getElem? (i := 10) rfl))) Via.refl e0 F0 (g := (mkF m 1 #[.val (.ref oa), .val (.int (0 : Int32))] [(.ref oa)])) rfl rfl (hb hby d9_1)
  obtain ⟨cl2, Ar2, q2, S2, M2, H2, G2⟩ := id V0
  have hin2 : ¬ ((0 : Int32) < 0 ∨ cl2.slots.size ≤ ((0 : Int32)).toNatClampNeg) := inb_of S2 ⟨by decide, by decide⟩
  have hat2 : cl2.slots[((0 : Int32)).toNatClampNeg]? = some (.long x0) := Has.at H2 hin2 rfl
  obtain ⟨fs, hr, hrun, hended, hW, hsame⟩ := X1.leave (v := some (.long x0)) (fun h => by rw [Bd.returns] at h; cases h)
  refine ⟨_, _, pre0 _ ?_, hrun, hended, _, _, rfl, ?_, ⟨_, rfl⟩, hW, hsame.mono (by decide) (by decide)⟩
  · refine XS.aloadN X0.here hx rfl (hb hby d9_0) rfl rfl ?_
    refine st1 _ ?_
    refine XS.iloadN X1.here hx rfl (hb hby d9_4) rfl ?_
    refine X1.laload hx (j := (0 : Int32)) (v := (.long x0)) (by rw [e1]; exact Ar2.1) (State.isArrayOf_alike hZ.alike Ar2.2.1) Ar2.2.2 hin2 hat2 (g := (mkF m 5 #[.val (.ref oa), .val (.int (0 : Int32))] [(.int (0 : Int32)), (.ref ea)])) rfl rfl (hb hby d9_5) _ ?_
    show Steps p.tables e below (T1.setTop (mkF m 6 #[.val (.ref oa), .val (.int (0 : Int32))] [(.long x0)])) _
    jvm_step X1.here [X1.here.top, hx, (hb hby d9_6), X1.method', Bd.returns, narrow]
    first | (intro acts; rw [hr _ acts rfl rfl rfl]) | rw [hr _ _ rfl rfl rfl]
    exact Steps.refl _
  · show Q_e3_0 Z oa ea ca kE kC x0 x1 x2 c0 c1 c2 h0 n0 _ T1.heap _
    rw [e1]
    exact ⟨_, rfl, rfl, N0, rfl⟩
theorem ef_rm_e3_1 (m : MethodId) (x0 : Addr) : entryFrame m #[(.ref x0), (.int (1 : Int32))] 2 = mkF m 0 #[.val (.ref x0), .val (.int (1 : Int32))] [] := by first | (simp [entryFrame, mkF, argsToLocals, Value.category]; done) | rfl
def Q_e3_1 (Z : State) (oa : Addr) (ea : Addr) (ca : Addr) (kE : ClassId) (kC : ClassId) (x0 : Int64) (x1 : Int64) (x2 : Int64) (c0 : Int64) (c1 : Int64) (c2 : Int64) (h0 : Heap) (n0 : Nat) (v : Option Value) (h : Heap) (L : List Loc) : Prop := ∃ z : Int64, v = some (.long z) ∧ (z.toInt = x1.toInt) ∧ Fr n0 L ∧ h = h0
set_option maxRecDepth 65536 in
set_option maxHeartbeats 40000000 in
theorem rm_e3_1 (l : Launch) (Z : State) (a0 : Array Value) (hw : ∀ d ∈ tables_1, d.before a0 Z = true) (ws : List Jvm.Cond) (oa : Addr) (ea : Addr) (ca : Addr) (kE : ClassId) (kC : ClassId) (x0 : Int64) (x1 : Int64) (x2 : Int64) (c0 : Int64) (c1 : Int64) (c2 : Int64) (h0 : Heap) (n0 : Nat) (Z0 : n0 ≤ h0.size) (Ea : Exa Z h0 oa "com/example/foreslot/foreslot/CountsByEnd") (F0 : Fld Z h0 oa "com/example/foreslot/foreslot/CountsByEnd" "ends" "[J" (.ref ea)) (F1 : Fld Z h0 oa "com/example/foreslot/foreslot/CountsByEnd" "counts" "[J" (.ref ca)) (F2 : Fld Z h0 oa "com/example/foreslot/foreslot/CountsByEnd" "size" "I" (.int (3 : Int32))) (V0 : Arv Z h0 ea kE .long (16 : Int32) [(.long x0), (.long x1), (.long x2), (.long (0 : Int64))] (.long (0 : Int64))) (V1 : Arv Z h0 ca kC .long (16 : Int32) [(.long c0), (.long c1), (.long c2), (.long (0 : Int64))] (.long (0 : Int64))) :
    MetFree l (⟨"com/example/foreslot/foreslot/CountsByEnd", "end", "(I)J"⟩ : MethodName) (head1 (Jvm.Cond.code (⟨"com/example/foreslot/foreslot/CountsByEnd", "end", "(I)J"⟩ : MethodName) prog_20_method_7_code 2 (some .long) :: ws) ({ frames := 0, cells := 0, slots := 0, locals := 0 } : Room)) (fun a U => a = #[(.ref oa), (.int (1 : Int32))] ∧ Z.Warmed39 U.vm ∧ U.heap = h0) (fun _ _ _ _ _ => True) (fun _ U o U' => ∃ v L, o = .returned v ∧ Q_e3_1 Z oa ea ca kE kC x0 x1 x2 c0 c1 c2 h0 n0 v U'.heap L ∧ FrameEnd U o U' L ({ frames := 0, cells := 0, slots := 0, locals := 0 } : Room).cells ({ frames := 0, cells := 0, slots := 0, locals := 0 } : Room).slots) := by
  refine MetFree.of_bodySF (plainFor_of_name pn_1) hisR ?_
  intro p e s m args below meth c s₁ Bd hml0 hP hK
  obtain ⟨rfl, hZ, hh⟩ := hP
  have hx := Bd.exec
  have hby := Bd.bytes
  have hml : c.maxLocals = 2 := hml0
  have hown : s.vm.findClass "com/example/foreslot/foreslot/CountsByEnd" = some m.cls := findClass_of_methodNamed Bd.named
  have hnm := (name_of_methodNamed Bd.named Bd.method).1
  have X0 : Stand p l e ({ frames := 0, cells := 0, slots := 0, locals := 0 } : Room) s m #[(.ref oa), (.int (1 : Int32))] below meth c s₁ [] 0 0 := Stand.of_body Bd
  have e0 : s₁.heap = h0 := by rw [← hh, Bd.state]; rfl
  have N0 := Fr.nil n0
  have pre0 : ∀ t, Steps p.tables e below (s₁.setTop (mkF m 0 #[.val (.ref oa), .val (.int (1 : Int32))] [])) t → Steps p.tables e below (s₁.setTop (entryFrame m #[(.ref oa), (.int (1 : Int32))] 2)) t := fun t k => castTop (ef_rm_e3_1 m oa) k
  obtain ⟨T1, X1, e1, st1⟩ := getF X0 hx hZ hown (host := "") (Or.inl (hw _ (List.mem_of_getElem? (i := 10) rfl))) Via.refl e0 F0 (g := (mkF m 1 #[.val (.ref oa), .val (.int (1 : Int32))] [(.ref oa)])) rfl rfl (hb hby d9_1)
  obtain ⟨cl2, Ar2, q2, S2, M2, H2, G2⟩ := id V0
  have hin2 : ¬ ((1 : Int32) < 0 ∨ cl2.slots.size ≤ ((1 : Int32)).toNatClampNeg) := inb_of S2 ⟨by decide, by decide⟩
  have hat2 : cl2.slots[((1 : Int32)).toNatClampNeg]? = some (.long x1) := Has.at H2 hin2 rfl
  obtain ⟨fs, hr, hrun, hended, hW, hsame⟩ := X1.leave (v := some (.long x1)) (fun h => by rw [Bd.returns] at h; cases h)
  refine ⟨_, _, pre0 _ ?_, hrun, hended, _, _, rfl, ?_, ⟨_, rfl⟩, hW, hsame.mono (by decide) (by decide)⟩
  · refine XS.aloadN X0.here hx rfl (hb hby d9_0) rfl rfl ?_
    refine st1 _ ?_
    refine XS.iloadN X1.here hx rfl (hb hby d9_4) rfl ?_
    refine X1.laload hx (j := (1 : Int32)) (v := (.long x1)) (by rw [e1]; exact Ar2.1) (State.isArrayOf_alike hZ.alike Ar2.2.1) Ar2.2.2 hin2 hat2 (g := (mkF m 5 #[.val (.ref oa), .val (.int (1 : Int32))] [(.int (1 : Int32)), (.ref ea)])) rfl rfl (hb hby d9_5) _ ?_
    show Steps p.tables e below (T1.setTop (mkF m 6 #[.val (.ref oa), .val (.int (1 : Int32))] [(.long x1)])) _
    jvm_step X1.here [X1.here.top, hx, (hb hby d9_6), X1.method', Bd.returns, narrow]
    first | (intro acts; rw [hr _ acts rfl rfl rfl]) | rw [hr _ _ rfl rfl rfl]
    exact Steps.refl _
  · show Q_e3_1 Z oa ea ca kE kC x0 x1 x2 c0 c1 c2 h0 n0 _ T1.heap _
    rw [e1]
    exact ⟨_, rfl, rfl, N0, rfl⟩
theorem ef_rm_e3_2 (m : MethodId) (x0 : Addr) : entryFrame m #[(.ref x0), (.int (2 : Int32))] 2 = mkF m 0 #[.val (.ref x0), .val (.int (2 : Int32))] [] := by first | (simp [entryFrame, mkF, argsToLocals, Value.category]; done) | rfl
def Q_e3_2 (Z : State) (oa : Addr) (ea : Addr) (ca : Addr) (kE : ClassId) (kC : ClassId) (x0 : Int64) (x1 : Int64) (x2 : Int64) (c0 : Int64) (c1 : Int64) (c2 : Int64) (h0 : Heap) (n0 : Nat) (v : Option Value) (h : Heap) (L : List Loc) : Prop := ∃ z : Int64, v = some (.long z) ∧ (z.toInt = x2.toInt) ∧ Fr n0 L ∧ h = h0
set_option maxRecDepth 65536 in
set_option maxHeartbeats 40000000 in
theorem rm_e3_2 (l : Launch) (Z : State) (a0 : Array Value) (hw : ∀ d ∈ tables_1, d.before a0 Z = true) (ws : List Jvm.Cond) (oa : Addr) (ea : Addr) (ca : Addr) (kE : ClassId) (kC : ClassId) (x0 : Int64) (x1 : Int64) (x2 : Int64) (c0 : Int64) (c1 : Int64) (c2 : Int64) (h0 : Heap) (n0 : Nat) (Z0 : n0 ≤ h0.size) (Ea : Exa Z h0 oa "com/example/foreslot/foreslot/CountsByEnd") (F0 : Fld Z h0 oa "com/example/foreslot/foreslot/CountsByEnd" "ends" "[J" (.ref ea)) (F1 : Fld Z h0 oa "com/example/foreslot/foreslot/CountsByEnd" "counts" "[J" (.ref ca)) (F2 : Fld Z h0 oa "com/example/foreslot/foreslot/CountsByEnd" "size" "I" (.int (3 : Int32))) (V0 : Arv Z h0 ea kE .long (16 : Int32) [(.long x0), (.long x1), (.long x2), (.long (0 : Int64))] (.long (0 : Int64))) (V1 : Arv Z h0 ca kC .long (16 : Int32) [(.long c0), (.long c1), (.long c2), (.long (0 : Int64))] (.long (0 : Int64))) :
    MetFree l (⟨"com/example/foreslot/foreslot/CountsByEnd", "end", "(I)J"⟩ : MethodName) (head1 (Jvm.Cond.code (⟨"com/example/foreslot/foreslot/CountsByEnd", "end", "(I)J"⟩ : MethodName) prog_20_method_7_code 2 (some .long) :: ws) ({ frames := 0, cells := 0, slots := 0, locals := 0 } : Room)) (fun a U => a = #[(.ref oa), (.int (2 : Int32))] ∧ Z.Warmed39 U.vm ∧ U.heap = h0) (fun _ _ _ _ _ => True) (fun _ U o U' => ∃ v L, o = .returned v ∧ Q_e3_2 Z oa ea ca kE kC x0 x1 x2 c0 c1 c2 h0 n0 v U'.heap L ∧ FrameEnd U o U' L ({ frames := 0, cells := 0, slots := 0, locals := 0 } : Room).cells ({ frames := 0, cells := 0, slots := 0, locals := 0 } : Room).slots) := by
  refine MetFree.of_bodySF (plainFor_of_name pn_1) hisR ?_
  intro p e s m args below meth c s₁ Bd hml0 hP hK
  obtain ⟨rfl, hZ, hh⟩ := hP
  have hx := Bd.exec
  have hby := Bd.bytes
  have hml : c.maxLocals = 2 := hml0
  have hown : s.vm.findClass "com/example/foreslot/foreslot/CountsByEnd" = some m.cls := findClass_of_methodNamed Bd.named
  have hnm := (name_of_methodNamed Bd.named Bd.method).1
  have X0 : Stand p l e ({ frames := 0, cells := 0, slots := 0, locals := 0 } : Room) s m #[(.ref oa), (.int (2 : Int32))] below meth c s₁ [] 0 0 := Stand.of_body Bd
  have e0 : s₁.heap = h0 := by rw [← hh, Bd.state]; rfl
  have N0 := Fr.nil n0
  have pre0 : ∀ t, Steps p.tables e below (s₁.setTop (mkF m 0 #[.val (.ref oa), .val (.int (2 : Int32))] [])) t → Steps p.tables e below (s₁.setTop (entryFrame m #[(.ref oa), (.int (2 : Int32))] 2)) t := fun t k => castTop (ef_rm_e3_2 m oa) k
  obtain ⟨T1, X1, e1, st1⟩ := getF X0 hx hZ hown (host := "") (Or.inl (hw _ (List.mem_of_getElem? (i := 10) rfl))) Via.refl e0 F0 (g := (mkF m 1 #[.val (.ref oa), .val (.int (2 : Int32))] [(.ref oa)])) rfl rfl (hb hby d9_1)
  obtain ⟨cl2, Ar2, q2, S2, M2, H2, G2⟩ := id V0
  have hin2 : ¬ ((2 : Int32) < 0 ∨ cl2.slots.size ≤ ((2 : Int32)).toNatClampNeg) := inb_of S2 ⟨by decide, by decide⟩
  have hat2 : cl2.slots[((2 : Int32)).toNatClampNeg]? = some (.long x2) := Has.at H2 hin2 rfl
  obtain ⟨fs, hr, hrun, hended, hW, hsame⟩ := X1.leave (v := some (.long x2)) (fun h => by rw [Bd.returns] at h; cases h)
  refine ⟨_, _, pre0 _ ?_, hrun, hended, _, _, rfl, ?_, ⟨_, rfl⟩, hW, hsame.mono (by decide) (by decide)⟩
  · refine XS.aloadN X0.here hx rfl (hb hby d9_0) rfl rfl ?_
    refine st1 _ ?_
    refine XS.iloadN X1.here hx rfl (hb hby d9_4) rfl ?_
    refine X1.laload hx (j := (2 : Int32)) (v := (.long x2)) (by rw [e1]; exact Ar2.1) (State.isArrayOf_alike hZ.alike Ar2.2.1) Ar2.2.2 hin2 hat2 (g := (mkF m 5 #[.val (.ref oa), .val (.int (2 : Int32))] [(.int (2 : Int32)), (.ref ea)])) rfl rfl (hb hby d9_5) _ ?_
    show Steps p.tables e below (T1.setTop (mkF m 6 #[.val (.ref oa), .val (.int (2 : Int32))] [(.long x2)])) _
    jvm_step X1.here [X1.here.top, hx, (hb hby d9_6), X1.method', Bd.returns, narrow]
    first | (intro acts; rw [hr _ acts rfl rfl rfl]) | rw [hr _ _ rfl rfl rfl]
    exact Steps.refl _
  · show Q_e3_2 Z oa ea ca kE kC x0 x1 x2 c0 c1 c2 h0 n0 _ T1.heap _
    rw [e1]
    exact ⟨_, rfl, rfl, N0, rfl⟩
theorem pn_2 : plainName "com/example/foreslot/foreslot/CountsByEndFirstReachingPinLaw" = true := by first | (simp [plainName, overriddenIn]; done) | decide +kernel
theorem ef_rm0 (m : MethodId) (x0 : Int64) (x1 : Int64) (x2 : Int64) (x3 : Int32) (x4 : Int32) (x5 : Int64) : entryFrame m #[(.long x0), (.long x1), (.long x2), (.int x3), (.int x4), (.long x5)] maxLocals = mkF m 0 #[.val (.long x0), .second, .val (.long x1), .second, .val (.long x2), .second, .val (.int x3), .val (.int x4), .val (.long x5), .second, .unset, .unset, .unset, .unset, .unset, .unset, .unset, .unset, .unset, .unset, .unset, .unset, .unset, .unset, .unset, .unset, .unset, .unset] [] := by first | (simp [entryFrame, mkF, argsToLocals, Value.category, maxLocals]; done) | rfl
theorem pd_2 : parseMethodDescriptor "()V" = some ⟨[], none⟩ := by decide +kernel
theorem pd_3 : parseMethodDescriptor "(J)I" = some ⟨[.long], some .int⟩ := by decide +kernel
theorem pd_4 : parseMethodDescriptor "()I" = some ⟨[], some .int⟩ := by decide +kernel
theorem pd_5 : parseMethodDescriptor "(JJ)V" = some ⟨[.long, .long], none⟩ := by decide +kernel
theorem pd_6 : parseMethodDescriptor "(I)J" = some ⟨[.int], some .long⟩ := by decide +kernel
theorem pd_7 : parseMethodDescriptor "(J)J" = some ⟨[.long], some .long⟩ := by decide +kernel
def Q0 (Z : State) (qa : Int64) (qb : Int64) (qd : Int64) (vc : Int32) (vk : Int32) (qq : Int64) (h0 : Heap) (n0 : Nat) (v : Option Value) (h : Heap) (L : List Loc) : Prop := v = some (.int 1) ∧ Fr n0 L
set_option maxRecDepth 65536 in
set_option maxHeartbeats 40000000 in
theorem rm0 (l : Launch) (Z : State) (a0 : Array Value) (hw : ∀ d ∈ tables_1, d.before a0 Z = true) (ws : List Jvm.Cond) (qa : Int64) (qb : Int64) (qd : Int64) (vc : Int32) (vk : Int32) (qq : Int64) (h0 : Heap) (n0 : Nat) (Z0 : n0 ≤ h0.size) :
    MetFree l x (head1 (Jvm.Cond.code x code maxLocals ret :: ws) room_1) (fun a U => a = #[(.long qa), (.long qb), (.long qd), (.int vc), (.int vk), (.long qq)] ∧ Z.Warmed39 U.vm ∧ U.heap = h0) (fun _ _ _ _ _ => True) (fun _ U o U' => ∃ v L, o = .returned v ∧ Q0 Z qa qb qd vc vk qq h0 n0 v U'.heap L ∧ FrameEnd U o U' L room_1.cells room_1.slots) := by
  refine MetFree.of_bodySF (plainFor_of_name pn_2) hisR ?_
  intro p e s m args below meth c s₁ Bd hml0 hP hK
  obtain ⟨rfl, hZ, hh⟩ := hP
  have hx := Bd.exec
  have hby := Bd.bytes
  have hml : c.maxLocals = 28 := hml0
  have hown : s.vm.findClass "com/example/foreslot/foreslot/CountsByEndFirstReachingPinLaw" = some m.cls := findClass_of_methodNamed Bd.named
  have hnm := (name_of_methodNamed Bd.named Bd.method).1
  have X0 : Stand p l e room_1 s m #[(.long qa), (.long qb), (.long qd), (.int vc), (.int vk), (.long qq)] below meth c s₁ [] 0 0 := Stand.of_body Bd
  have e0 : s₁.heap = h0 := by rw [← hh, Bd.state]; rfl
  have N0 := Fr.nil n0
  have pre0 : ∀ t, Steps p.tables e below (s₁.setTop (mkF m 0 #[.val (.long qa), .second, .val (.long qb), .second, .val (.long qd), .second, .val (.int vc), .val (.int vk), .val (.long qq), .second, .unset, .unset, .unset, .unset, .unset, .unset, .unset, .unset, .unset, .unset, .unset, .unset, .unset, .unset, .unset, .unset, .unset, .unset] [])) t → Steps p.tables e below (s₁.setTop (entryFrame m #[(.long qa), (.long qb), (.long qd), (.int vc), (.int vk), (.long qq)] maxLocals)) t := fun t k => castTop (ef_rm0 m qa qb qd vc vk qq) k
  have pre1 : ∀ t, Steps p.tables e below (s₁.setTop (mkF m 4 #[.val (.long qa), .second, .val (.long qb), .second, .val (.long qd), .second, .val (.int vc), .val (.int vk), .val (.long qq), .second, .unset, .unset, .unset, .unset, .unset, .unset, .unset, .unset, .unset, .unset, .unset, .unset, .unset, .unset, .unset, .unset, .unset, .unset] [(.int (vk &&& (3 : Int32)))])) t → Steps p.tables e below (s₁.setTop (entryFrame m #[(.long qa), (.long qb), (.long qd), (.int vc), (.int vk), (.long qq)] maxLocals)) t := fun t kt => by
    refine pre0 _ ?_
    refine XS.iload X0.here hx rfl (hb hby at_0) rfl ?_
    refine XS.iconst X0.here hx rfl (hb hby at_2) ?_
    refine XS.iand X0.here hx rfl (hb hby at_3) rfl ?_
    exact kt
  obtain ⟨nk, hnk⟩ : ∃ z : Int32, z = (vk &&& (3 : Int32)) := ⟨_, rfl⟩
  have ink : nk.toInt = vk.toInt % 4 := by rw [hnk]; have := rng32 vk; have : ((vk &&& (3 : Int32))).toInt = vk.toInt % 4 := c_mask vk (3 : Int32) 2 (by decide) (by decide); omega
  have pre2 : ∀ t, Steps p.tables e below (s₁.setTop (mkF m 4 #[.val (.long qa), .second, .val (.long qb), .second, .val (.long qd), .second, .val (.int vc), .val (.int vk), .val (.long qq), .second, .unset, .unset, .unset, .unset, .unset, .unset, .unset, .unset, .unset, .unset, .unset, .unset, .unset, .unset, .unset, .unset, .unset, .unset] [(.int nk)])) t → Steps p.tables e below (s₁.setTop (entryFrame m #[(.long qa), (.long qb), (.long qd), (.int vc), (.int vk), (.long qq)] maxLocals)) t := by rw [hnk]; exact pre1
  have pre3 : ∀ t, Steps p.tables e below (s₁.setTop (mkF m 15 #[.val (.long qa), .second, .val (.long qb), .second, .val (.long qd), .second, .val (.int vc), .val (.int vk), .val (.long qq), .second, .val (.int nk), .unset, .unset, .unset, .unset, .unset, .unset, .unset, .unset, .unset, .unset, .unset, .unset, .unset, .unset, .unset, .unset, .unset] [(.long (((vc &&& (255 : Int32)).toInt64) + (1 : Int64)))])) t → Steps p.tables e below (s₁.setTop (entryFrame m #[(.long qa), (.long qb), (.long qd), (.int vc), (.int vk), (.long qq)] maxLocals)) t := fun t kt => by
    refine pre2 _ ?_
    refine XS.istore X0.here hx rfl (hb hby at_4) rfl (l' := #[.val (.long qa), .second, .val (.long qb), .second, .val (.long qd), .second, .val (.int vc), .val (.int vk), .val (.long qq), .second, .val (.int nk), .unset, .unset, .unset, .unset, .unset, .unset, .unset, .unset, .unset, .unset, .unset, .unset, .unset, .unset, .unset, .unset, .unset]) rfl ?_
    show Steps p.tables e below (s₁.setTop (mkF m 6 #[.val (.long qa), .second, .val (.long qb), .second, .val (.long qd), .second, .val (.int vc), .val (.int vk), .val (.long qq), .second, .val (.int nk), .unset, .unset, .unset, .unset, .unset, .unset, .unset, .unset, .unset, .unset, .unset, .unset, .unset, .unset, .unset, .unset, .unset] [])) _
    refine XS.iload X0.here hx rfl (hb hby at_6) rfl ?_
    refine XS.sipush X0.here hx rfl (hb hby at_8) ?_
    refine XS.iand X0.here hx rfl (hb hby at_11) rfl ?_
    refine XS.i2l X0.here hx rfl (hb hby at_12) rfl ?_
    refine XS.lconst X0.here hx rfl (hb hby at_13) ?_
    show Steps p.tables e below (s₁.setTop (mkF m 14 #[.val (.long qa), .second, .val (.long qb), .second, .val (.long qd), .second, .val (.int vc), .val (.int vk), .val (.long qq), .second, .val (.int nk), .unset, .unset, .unset, .unset, .unset, .unset, .unset, .unset, .unset, .unset, .unset, .unset, .unset, .unset, .unset, .unset, .unset] [(.long (1 : Int64)), (.long ((vc &&& (255 : Int32)).toInt64))])) _
    refine XS.ladd X0.here hx rfl (hb hby at_14) rfl ?_
    exact kt
  obtain ⟨q1, hq1⟩ : ∃ z : Int64, z = (((vc &&& (255 : Int32)).toInt64) + (1 : Int64)) := ⟨_, rfl⟩
  have pre4 : ∀ t, Steps p.tables e below (s₁.setTop (mkF m 15 #[.val (.long qa), .second, .val (.long qb), .second, .val (.long qd), .second, .val (.int vc), .val (.int vk), .val (.long qq), .second, .val (.int nk), .unset, .unset, .unset, .unset, .unset, .unset, .unset, .unset, .unset, .unset, .unset, .unset, .unset, .unset, .unset, .unset, .unset] [(.long q1)])) t → Steps p.tables e below (s₁.setTop (entryFrame m #[(.long qa), (.long qb), (.long qd), (.int vc), (.int vk), (.long qq)] maxLocals)) t := by rw [hq1]; exact pre3
  have jq1 : 1 ≤ q1.toInt ∧ q1.toInt ≤ 256 := by rw [hq1]; have := rng32 vc; have : ((vc &&& (255 : Int32))).toInt = vc.toInt % 256 := c_mask vc (255 : Int32) 8 (by decide) (by decide); have := c_i2l (vc &&& (255 : Int32)); (first | (have : ((((vc &&& (255 : Int32)).toInt64) + (1 : Int64))).toInt = ((vc &&& (255 : Int32)).toInt64).toInt + (1 : Int) := (by have : (((((vc &&& (255 : Int32)).toInt64) + (1 : Int64))).toInt - (((vc &&& (255 : Int32)).toInt64).toInt + (1 : Int))) % 18446744073709551616 = 0 := c_ladd ((vc &&& (255 : Int32)).toInt64) (1 : Int64); have := rng64 (((vc &&& (255 : Int32)).toInt64) + (1 : Int64)); omega)) | (have : (((((vc &&& (255 : Int32)).toInt64) + (1 : Int64))).toInt - (((vc &&& (255 : Int32)).toInt64).toInt + (1 : Int))) % 18446744073709551616 = 0 := c_ladd ((vc &&& (255 : Int32)).toInt64) (1 : Int64); have := rng64 (((vc &&& (255 : Int32)).toInt64) + (1 : Int64)))); omega
  have pre5 : ∀ t, Steps p.tables e below (s₁.setTop (mkF m 29 #[.val (.long qa), .second, .val (.long qb), .second, .val (.long qd), .second, .val (.int vc), .val (.int vk), .val (.long qq), .second, .val (.int nk), .val (.long q1), .second, .unset, .unset, .unset, .unset, .unset, .unset, .unset, .unset, .unset, .unset, .unset, .unset, .unset, .unset, .unset] [(.long (((((vc.toUInt32 >>> ((8 : Int32) &&& 31).toUInt32).toInt32) &&& (255 : Int32)).toInt64) + (1 : Int64)))])) t → Steps p.tables e below (s₁.setTop (entryFrame m #[(.long qa), (.long qb), (.long qd), (.int vc), (.int vk), (.long qq)] maxLocals)) t := fun t kt => by
    refine pre4 _ ?_
    refine XS.lstore X0.here hx rfl (hb hby at_15) rfl (l' := #[.val (.long qa), .second, .val (.long qb), .second, .val (.long qd), .second, .val (.int vc), .val (.int vk), .val (.long qq), .second, .val (.int nk), .val (.long q1), .second, .unset, .unset, .unset, .unset, .unset, .unset, .unset, .unset, .unset, .unset, .unset, .unset, .unset, .unset, .unset]) rfl ?_
    refine XS.iload X0.here hx rfl (hb hby at_17) rfl ?_
    refine XS.bipush X0.here hx rfl (hb hby at_19) ?_
    refine XS.iushr X0.here hx rfl (hb hby at_21) rfl ?_
    show Steps p.tables e below (s₁.setTop (mkF m 22 #[.val (.long qa), .second, .val (.long qb), .second, .val (.long qd), .second, .val (.int vc), .val (.int vk), .val (.long qq), .second, .val (.int nk), .val (.long q1), .second, .unset, .unset, .unset, .unset, .unset, .unset, .unset, .unset, .unset, .unset, .unset, .unset, .unset, .unset, .unset] [(.int ((vc.toUInt32 >>> ((8 : Int32) &&& 31).toUInt32).toInt32))])) _
    refine XS.sipush X0.here hx rfl (hb hby at_22) ?_
    refine XS.iand X0.here hx rfl (hb hby at_25) rfl ?_
    refine XS.i2l X0.here hx rfl (hb hby at_26) rfl ?_
    refine XS.lconst X0.here hx rfl (hb hby at_27) ?_
    refine XS.ladd X0.here hx rfl (hb hby at_28) rfl ?_
    exact kt
  obtain ⟨q2, hq2⟩ : ∃ z : Int64, z = (((((vc.toUInt32 >>> ((8 : Int32) &&& 31).toUInt32).toInt32) &&& (255 : Int32)).toInt64) + (1 : Int64)) := ⟨_, rfl⟩
  have pre6 : ∀ t, Steps p.tables e below (s₁.setTop (mkF m 29 #[.val (.long qa), .second, .val (.long qb), .second, .val (.long qd), .second, .val (.int vc), .val (.int vk), .val (.long qq), .second, .val (.int nk), .val (.long q1), .second, .unset, .unset, .unset, .unset, .unset, .unset, .unset, .unset, .unset, .unset, .unset, .unset, .unset, .unset, .unset] [(.long q2)])) t → Steps p.tables e below (s₁.setTop (entryFrame m #[(.long qa), (.long qb), (.long qd), (.int vc), (.int vk), (.long qq)] maxLocals)) t := by rw [hq2]; exact pre5
  have jq2 : 1 ≤ q2.toInt ∧ q2.toInt ≤ 256 := by rw [hq2]; have := rng32 vc; have : (((vc.toUInt32 >>> ((8 : Int32) &&& 31).toUInt32).toInt32)).toInt = (vc.toInt % 4294967296) / 256 := c_iushr vc (8 : Int32) 8 (by decide) (by decide); have : ((((vc.toUInt32 >>> ((8 : Int32) &&& 31).toUInt32).toInt32) &&& (255 : Int32))).toInt = ((vc.toUInt32 >>> ((8 : Int32) &&& 31).toUInt32).toInt32).toInt % 256 := c_mask ((vc.toUInt32 >>> ((8 : Int32) &&& 31).toUInt32).toInt32) (255 : Int32) 8 (by decide) (by decide); have := c_i2l (((vc.toUInt32 >>> ((8 : Int32) &&& 31).toUInt32).toInt32) &&& (255 : Int32)); (first | (have : ((((((vc.toUInt32 >>> ((8 : Int32) &&& 31).toUInt32).toInt32) &&& (255 : Int32)).toInt64) + (1 : Int64))).toInt = ((((vc.toUInt32 >>> ((8 : Int32) &&& 31).toUInt32).toInt32) &&& (255 : Int32)).toInt64).toInt + (1 : Int) := (by have : (((((((vc.toUInt32 >>> ((8 : Int32) &&& 31).toUInt32).toInt32) &&& (255 : Int32)).toInt64) + (1 : Int64))).toInt - (((((vc.toUInt32 >>> ((8 : Int32) &&& 31).toUInt32).toInt32) &&& (255 : Int32)).toInt64).toInt + (1 : Int))) % 18446744073709551616 = 0 := c_ladd ((((vc.toUInt32 >>> ((8 : Int32) &&& 31).toUInt32).toInt32) &&& (255 : Int32)).toInt64) (1 : Int64); have := rng64 (((((vc.toUInt32 >>> ((8 : Int32) &&& 31).toUInt32).toInt32) &&& (255 : Int32)).toInt64) + (1 : Int64)); omega)) | (have : (((((((vc.toUInt32 >>> ((8 : Int32) &&& 31).toUInt32).toInt32) &&& (255 : Int32)).toInt64) + (1 : Int64))).toInt - (((((vc.toUInt32 >>> ((8 : Int32) &&& 31).toUInt32).toInt32) &&& (255 : Int32)).toInt64).toInt + (1 : Int))) % 18446744073709551616 = 0 := c_ladd ((((vc.toUInt32 >>> ((8 : Int32) &&& 31).toUInt32).toInt32) &&& (255 : Int32)).toInt64) (1 : Int64); have := rng64 (((((vc.toUInt32 >>> ((8 : Int32) &&& 31).toUInt32).toInt32) &&& (255 : Int32)).toInt64) + (1 : Int64)))); omega
  have pre7 : ∀ t, Steps p.tables e below (s₁.setTop (mkF m 43 #[.val (.long qa), .second, .val (.long qb), .second, .val (.long qd), .second, .val (.int vc), .val (.int vk), .val (.long qq), .second, .val (.int nk), .val (.long q1), .second, .val (.long q2), .second, .unset, .unset, .unset, .unset, .unset, .unset, .unset, .unset, .unset, .unset, .unset, .unset, .unset] [(.long (((((vc.toUInt32 >>> ((16 : Int32) &&& 31).toUInt32).toInt32) &&& (255 : Int32)).toInt64) + (1 : Int64)))])) t → Steps p.tables e below (s₁.setTop (entryFrame m #[(.long qa), (.long qb), (.long qd), (.int vc), (.int vk), (.long qq)] maxLocals)) t := fun t kt => by
    refine pre6 _ ?_
    show Steps p.tables e below (s₁.setTop (mkF m 29 #[.val (.long qa), .second, .val (.long qb), .second, .val (.long qd), .second, .val (.int vc), .val (.int vk), .val (.long qq), .second, .val (.int nk), .val (.long q1), .second, .unset, .unset, .unset, .unset, .unset, .unset, .unset, .unset, .unset, .unset, .unset, .unset, .unset, .unset, .unset] [(.long q2)])) _
    refine XS.lstore X0.here hx rfl (hb hby at_29) rfl (l' := #[.val (.long qa), .second, .val (.long qb), .second, .val (.long qd), .second, .val (.int vc), .val (.int vk), .val (.long qq), .second, .val (.int nk), .val (.long q1), .second, .val (.long q2), .second, .unset, .unset, .unset, .unset, .unset, .unset, .unset, .unset, .unset, .unset, .unset, .unset, .unset]) rfl ?_
    refine XS.iload X0.here hx rfl (hb hby at_31) rfl ?_
    refine XS.bipush X0.here hx rfl (hb hby at_33) ?_
    refine XS.iushr X0.here hx rfl (hb hby at_35) rfl ?_
    refine XS.sipush X0.here hx rfl (hb hby at_36) ?_
    show Steps p.tables e below (s₁.setTop (mkF m 39 #[.val (.long qa), .second, .val (.long qb), .second, .val (.long qd), .second, .val (.int vc), .val (.int vk), .val (.long qq), .second, .val (.int nk), .val (.long q1), .second, .val (.long q2), .second, .unset, .unset, .unset, .unset, .unset, .unset, .unset, .unset, .unset, .unset, .unset, .unset, .unset] [(.int (255 : Int32)), (.int ((vc.toUInt32 >>> ((16 : Int32) &&& 31).toUInt32).toInt32))])) _
    refine XS.iand X0.here hx rfl (hb hby at_39) rfl ?_
    refine XS.i2l X0.here hx rfl (hb hby at_40) rfl ?_
    refine XS.lconst X0.here hx rfl (hb hby at_41) ?_
    refine XS.ladd X0.here hx rfl (hb hby at_42) rfl ?_
    exact kt
  obtain ⟨q3, hq3⟩ : ∃ z : Int64, z = (((((vc.toUInt32 >>> ((16 : Int32) &&& 31).toUInt32).toInt32) &&& (255 : Int32)).toInt64) + (1 : Int64)) := ⟨_, rfl⟩
  have pre8 : ∀ t, Steps p.tables e below (s₁.setTop (mkF m 43 #[.val (.long qa), .second, .val (.long qb), .second, .val (.long qd), .second, .val (.int vc), .val (.int vk), .val (.long qq), .second, .val (.int nk), .val (.long q1), .second, .val (.long q2), .second, .unset, .unset, .unset, .unset, .unset, .unset, .unset, .unset, .unset, .unset, .unset, .unset, .unset] [(.long q3)])) t → Steps p.tables e below (s₁.setTop (entryFrame m #[(.long qa), (.long qb), (.long qd), (.int vc), (.int vk), (.long qq)] maxLocals)) t := by rw [hq3]; exact pre7
  have jq3 : 1 ≤ q3.toInt ∧ q3.toInt ≤ 256 := by rw [hq3]; have := rng32 vc; have : (((vc.toUInt32 >>> ((16 : Int32) &&& 31).toUInt32).toInt32)).toInt = (vc.toInt % 4294967296) / 65536 := c_iushr vc (16 : Int32) 16 (by decide) (by decide); have : ((((vc.toUInt32 >>> ((16 : Int32) &&& 31).toUInt32).toInt32) &&& (255 : Int32))).toInt = ((vc.toUInt32 >>> ((16 : Int32) &&& 31).toUInt32).toInt32).toInt % 256 := c_mask ((vc.toUInt32 >>> ((16 : Int32) &&& 31).toUInt32).toInt32) (255 : Int32) 8 (by decide) (by decide); have := c_i2l (((vc.toUInt32 >>> ((16 : Int32) &&& 31).toUInt32).toInt32) &&& (255 : Int32)); (first | (have : ((((((vc.toUInt32 >>> ((16 : Int32) &&& 31).toUInt32).toInt32) &&& (255 : Int32)).toInt64) + (1 : Int64))).toInt = ((((vc.toUInt32 >>> ((16 : Int32) &&& 31).toUInt32).toInt32) &&& (255 : Int32)).toInt64).toInt + (1 : Int) := (by have : (((((((vc.toUInt32 >>> ((16 : Int32) &&& 31).toUInt32).toInt32) &&& (255 : Int32)).toInt64) + (1 : Int64))).toInt - (((((vc.toUInt32 >>> ((16 : Int32) &&& 31).toUInt32).toInt32) &&& (255 : Int32)).toInt64).toInt + (1 : Int))) % 18446744073709551616 = 0 := c_ladd ((((vc.toUInt32 >>> ((16 : Int32) &&& 31).toUInt32).toInt32) &&& (255 : Int32)).toInt64) (1 : Int64); have := rng64 (((((vc.toUInt32 >>> ((16 : Int32) &&& 31).toUInt32).toInt32) &&& (255 : Int32)).toInt64) + (1 : Int64)); omega)) | (have : (((((((vc.toUInt32 >>> ((16 : Int32) &&& 31).toUInt32).toInt32) &&& (255 : Int32)).toInt64) + (1 : Int64))).toInt - (((((vc.toUInt32 >>> ((16 : Int32) &&& 31).toUInt32).toInt32) &&& (255 : Int32)).toInt64).toInt + (1 : Int))) % 18446744073709551616 = 0 := c_ladd ((((vc.toUInt32 >>> ((16 : Int32) &&& 31).toUInt32).toInt32) &&& (255 : Int32)).toInt64) (1 : Int64); have := rng64 (((((vc.toUInt32 >>> ((16 : Int32) &&& 31).toUInt32).toInt32) &&& (255 : Int32)).toInt64) + (1 : Int64)))); omega
  have pre9 : ∀ t, Steps p.tables e below (s₁.setTop (mkF m 45 #[.val (.long qa), .second, .val (.long qb), .second, .val (.long qd), .second, .val (.int vc), .val (.int vk), .val (.long qq), .second, .val (.int nk), .val (.long q1), .second, .val (.long q2), .second, .val (.long q3), .second, .unset, .unset, .unset, .unset, .unset, .unset, .unset, .unset, .unset, .unset, .unset] [])) t → Steps p.tables e below (s₁.setTop (entryFrame m #[(.long qa), (.long qb), (.long qd), (.int vc), (.int vk), (.long qq)] maxLocals)) t := fun t kt => by
    refine pre8 _ ?_
    refine XS.lstore X0.here hx rfl (hb hby at_43) rfl (l' := #[.val (.long qa), .second, .val (.long qb), .second, .val (.long qd), .second, .val (.int vc), .val (.int vk), .val (.long qq), .second, .val (.int nk), .val (.long q1), .second, .val (.long q2), .second, .val (.long q3), .second, .unset, .unset, .unset, .unset, .unset, .unset, .unset, .unset, .unset, .unset, .unset]) rfl ?_
    exact kt
  obtain ⟨qe1, hqe1, pre14⟩ : ∃ qe1 : Int64, (True) ∧ ∀ t, Steps p.tables e below (s₁.setTop (mkF m 57 #[.val (.long qa), .second, .val (.long qb), .second, .val (.long qd), .second, .val (.int vc), .val (.int vk), .val (.long qq), .second, .val (.int nk), .val (.long q1), .second, .val (.long q2), .second, .val (.long q3), .second, .unset, .unset, .unset, .unset, .unset, .unset, .unset, .unset, .unset, .unset, .unset] [(.long qe1)])) t → Steps p.tables e below (s₁.setTop (entryFrame m #[(.long qa), (.long qb), (.long qd), (.int vc), (.int vk), (.long qq)] maxLocals)) t := by
    have pre11 : ∀ t, Steps p.tables e below (s₁.setTop (mkF m 49 #[.val (.long qa), .second, .val (.long qb), .second, .val (.long qd), .second, .val (.int vc), .val (.int vk), .val (.long qq), .second, .val (.int nk), .val (.long q1), .second, .val (.long q2), .second, .val (.long q3), .second, .unset, .unset, .unset, .unset, .unset, .unset, .unset, .unset, .unset, .unset, .unset] [(.int (vk &&& (4 : Int32)))])) t → Steps p.tables e below (s₁.setTop (entryFrame m #[(.long qa), (.long qb), (.long qd), (.int vc), (.int vk), (.long qq)] maxLocals)) t := fun t kt => by
      refine pre9 _ ?_
      show Steps p.tables e below (s₁.setTop (mkF m 45 #[.val (.long qa), .second, .val (.long qb), .second, .val (.long qd), .second, .val (.int vc), .val (.int vk), .val (.long qq), .second, .val (.int nk), .val (.long q1), .second, .val (.long q2), .second, .val (.long q3), .second, .unset, .unset, .unset, .unset, .unset, .unset, .unset, .unset, .unset, .unset, .unset] [])) _
      refine XS.iload X0.here hx rfl (hb hby at_45) rfl ?_
      refine XS.iconst X0.here hx rfl (hb hby at_47) ?_
      refine XS.iand X0.here hx rfl (hb hby at_48) rfl ?_
      exact kt
    by_cases hc49_10 : (vk &&& (4 : Int32)).toInt = (0 : Int)
    · have pre12 : ∀ t, Steps p.tables e below (s₁.setTop (mkF m 57 #[.val (.long qa), .second, .val (.long qb), .second, .val (.long qd), .second, .val (.int vc), .val (.int vk), .val (.long qq), .second, .val (.int nk), .val (.long q1), .second, .val (.long q2), .second, .val (.long q3), .second, .unset, .unset, .unset, .unset, .unset, .unset, .unset, .unset, .unset, .unset, .unset] [(.long qb)])) t → Steps p.tables e below (s₁.setTop (entryFrame m #[(.long qa), (.long qb), (.long qd), (.int vc), (.int vk), (.long qq)] maxLocals)) t := fun t kt => by
        refine pre11 _ ?_
        show Steps p.tables e below (s₁.setTop (mkF m 49 #[.val (.long qa), .second, .val (.long qb), .second, .val (.long qd), .second, .val (.int vc), .val (.int vk), .val (.long qq), .second, .val (.int nk), .val (.long q1), .second, .val (.long q2), .second, .val (.long q3), .second, .unset, .unset, .unset, .unset, .unset, .unset, .unset, .unset, .unset, .unset, .unset] [(.int (vk &&& (4 : Int32)))])) _
        refine XS.ifYes X0.here hx rfl (pc0 := 49) (pc' := 56) rfl (hb hby at_49) rfl (own_if (own_teq (a := (vk &&& (4 : Int32))) (b := (0 : Int32)) rfl (by decide) hc49_10).1) (by decide) (by decide) ?_
        show Steps p.tables e below (s₁.setTop (mkF m 56 #[.val (.long qa), .second, .val (.long qb), .second, .val (.long qd), .second, .val (.int vc), .val (.int vk), .val (.long qq), .second, .val (.int nk), .val (.long q1), .second, .val (.long q2), .second, .val (.long q3), .second, .unset, .unset, .unset, .unset, .unset, .unset, .unset, .unset, .unset, .unset, .unset] [])) _
        refine XS.lloadN X0.here hx rfl (hb hby at_56) rfl ?_
        exact kt
      exact ⟨qb, by trivial, pre12⟩
    · have pre13 : ∀ t, Steps p.tables e below (s₁.setTop (mkF m 57 #[.val (.long qa), .second, .val (.long qb), .second, .val (.long qd), .second, .val (.int vc), .val (.int vk), .val (.long qq), .second, .val (.int nk), .val (.long q1), .second, .val (.long q2), .second, .val (.long q3), .second, .unset, .unset, .unset, .unset, .unset, .unset, .unset, .unset, .unset, .unset, .unset] [(.long qa)])) t → Steps p.tables e below (s₁.setTop (entryFrame m #[(.long qa), (.long qb), (.long qd), (.int vc), (.int vk), (.long qq)] maxLocals)) t := fun t kt => by
        refine pre11 _ ?_
        show Steps p.tables e below (s₁.setTop (mkF m 49 #[.val (.long qa), .second, .val (.long qb), .second, .val (.long qd), .second, .val (.int vc), .val (.int vk), .val (.long qq), .second, .val (.int nk), .val (.long q1), .second, .val (.long q2), .second, .val (.long q3), .second, .unset, .unset, .unset, .unset, .unset, .unset, .unset, .unset, .unset, .unset, .unset] [(.int (vk &&& (4 : Int32)))])) _
        refine XS.ifNo X0.here hx rfl (hb hby at_49) rfl (own_if (own_feq (a := (vk &&& (4 : Int32))) (b := (0 : Int32)) rfl (by decide) hc49_10).1) ?_
        show Steps p.tables e below (s₁.setTop (mkF m 52 #[.val (.long qa), .second, .val (.long qb), .second, .val (.long qd), .second, .val (.int vc), .val (.int vk), .val (.long qq), .second, .val (.int nk), .val (.long q1), .second, .val (.long q2), .second, .val (.long q3), .second, .unset, .unset, .unset, .unset, .unset, .unset, .unset, .unset, .unset, .unset, .unset] [])) _
        refine XS.lloadN X0.here hx rfl (hb hby at_52) rfl ?_
        refine XS.goto X0.here hx rfl (pc0 := 53) (pc' := 57) rfl (hb hby at_53) (by decide) (by decide) ?_
        exact kt
      exact ⟨qa, by trivial, pre13⟩
  have pre15 : ∀ t, Steps p.tables e below (s₁.setTop (mkF m 59 #[.val (.long qa), .second, .val (.long qb), .second, .val (.long qd), .second, .val (.int vc), .val (.int vk), .val (.long qq), .second, .val (.int nk), .val (.long q1), .second, .val (.long q2), .second, .val (.long q3), .second, .val (.long qe1), .second, .unset, .unset, .unset, .unset, .unset, .unset, .unset, .unset, .unset] [])) t → Steps p.tables e below (s₁.setTop (entryFrame m #[(.long qa), (.long qb), (.long qd), (.int vc), (.int vk), (.long qq)] maxLocals)) t := fun t kt => by
    refine pre14 _ ?_
    show Steps p.tables e below (s₁.setTop (mkF m 57 #[.val (.long qa), .second, .val (.long qb), .second, .val (.long qd), .second, .val (.int vc), .val (.int vk), .val (.long qq), .second, .val (.int nk), .val (.long q1), .second, .val (.long q2), .second, .val (.long q3), .second, .unset, .unset, .unset, .unset, .unset, .unset, .unset, .unset, .unset, .unset, .unset] [(.long qe1)])) _
    refine XS.lstore X0.here hx rfl (hb hby at_57) rfl (l' := #[.val (.long qa), .second, .val (.long qb), .second, .val (.long qd), .second, .val (.int vc), .val (.int vk), .val (.long qq), .second, .val (.int nk), .val (.long q1), .second, .val (.long q2), .second, .val (.long q3), .second, .val (.long qe1), .second, .unset, .unset, .unset, .unset, .unset, .unset, .unset, .unset, .unset]) rfl ?_
    exact kt
  obtain ⟨qe2, hqe2, pre23⟩ : ∃ qe2 : Int64, (True) ∧ ∀ t, Steps p.tables e below (s₁.setTop (mkF m 86 #[.val (.long qa), .second, .val (.long qb), .second, .val (.long qd), .second, .val (.int vc), .val (.int vk), .val (.long qq), .second, .val (.int nk), .val (.long q1), .second, .val (.long q2), .second, .val (.long q3), .second, .val (.long qe1), .second, .unset, .unset, .unset, .unset, .unset, .unset, .unset, .unset, .unset] [(.long qe2)])) t → Steps p.tables e below (s₁.setTop (entryFrame m #[(.long qa), (.long qb), (.long qd), (.int vc), (.int vk), (.long qq)] maxLocals)) t := by
    have pre17 : ∀ t, Steps p.tables e below (s₁.setTop (mkF m 64 #[.val (.long qa), .second, .val (.long qb), .second, .val (.long qd), .second, .val (.int vc), .val (.int vk), .val (.long qq), .second, .val (.int nk), .val (.long q1), .second, .val (.long q2), .second, .val (.long q3), .second, .val (.long qe1), .second, .unset, .unset, .unset, .unset, .unset, .unset, .unset, .unset, .unset] [(.int (vk &&& (8 : Int32)))])) t → Steps p.tables e below (s₁.setTop (entryFrame m #[(.long qa), (.long qb), (.long qd), (.int vc), (.int vk), (.long qq)] maxLocals)) t := fun t kt => by
      refine pre15 _ ?_
      refine XS.iload X0.here hx rfl (hb hby at_59) rfl ?_
      refine XS.bipush X0.here hx rfl (hb hby at_61) ?_
      refine XS.iand X0.here hx rfl (hb hby at_63) rfl ?_
      exact kt
    by_cases hc64_16 : (vk &&& (8 : Int32)).toInt = (0 : Int)
    · have pre19 : ∀ t, Steps p.tables e below (s₁.setTop (mkF m 76 #[.val (.long qa), .second, .val (.long qb), .second, .val (.long qd), .second, .val (.int vc), .val (.int vk), .val (.long qq), .second, .val (.int nk), .val (.long q1), .second, .val (.long q2), .second, .val (.long q3), .second, .val (.long qe1), .second, .unset, .unset, .unset, .unset, .unset, .unset, .unset, .unset, .unset] [(.int (vk &&& (16 : Int32)))])) t → Steps p.tables e below (s₁.setTop (entryFrame m #[(.long qa), (.long qb), (.long qd), (.int vc), (.int vk), (.long qq)] maxLocals)) t := fun t kt => by
        refine pre17 _ ?_
        show Steps p.tables e below (s₁.setTop (mkF m 64 #[.val (.long qa), .second, .val (.long qb), .second, .val (.long qd), .second, .val (.int vc), .val (.int vk), .val (.long qq), .second, .val (.int nk), .val (.long q1), .second, .val (.long q2), .second, .val (.long q3), .second, .val (.long qe1), .second, .unset, .unset, .unset, .unset, .unset, .unset, .unset, .unset, .unset] [(.int (vk &&& (8 : Int32)))])) _
        refine XS.ifYes X0.here hx rfl (pc0 := 64) (pc' := 71) rfl (hb hby at_64) rfl (own_if (own_teq (a := (vk &&& (8 : Int32))) (b := (0 : Int32)) rfl (by decide) hc64_16).1) (by decide) (by decide) ?_
        refine XS.iload X0.here hx rfl (hb hby at_71) rfl ?_
        refine XS.bipush X0.here hx rfl (hb hby at_73) ?_
        refine XS.iand X0.here hx rfl (hb hby at_75) rfl ?_
        exact kt
      by_cases hc76_18 : (vk &&& (16 : Int32)).toInt = (0 : Int)
      · have pre20 : ∀ t, Steps p.tables e below (s₁.setTop (mkF m 86 #[.val (.long qa), .second, .val (.long qb), .second, .val (.long qd), .second, .val (.int vc), .val (.int vk), .val (.long qq), .second, .val (.int nk), .val (.long q1), .second, .val (.long q2), .second, .val (.long q3), .second, .val (.long qe1), .second, .unset, .unset, .unset, .unset, .unset, .unset, .unset, .unset, .unset] [(.long qd)])) t → Steps p.tables e below (s₁.setTop (entryFrame m #[(.long qa), (.long qb), (.long qd), (.int vc), (.int vk), (.long qq)] maxLocals)) t := fun t kt => by
          refine pre19 _ ?_
          show Steps p.tables e below (s₁.setTop (mkF m 76 #[.val (.long qa), .second, .val (.long qb), .second, .val (.long qd), .second, .val (.int vc), .val (.int vk), .val (.long qq), .second, .val (.int nk), .val (.long q1), .second, .val (.long q2), .second, .val (.long q3), .second, .val (.long qe1), .second, .unset, .unset, .unset, .unset, .unset, .unset, .unset, .unset, .unset] [(.int (vk &&& (16 : Int32)))])) _
          refine XS.ifYes X0.here hx rfl (pc0 := 76) (pc' := 84) rfl (hb hby at_76) rfl (own_if (own_teq (a := (vk &&& (16 : Int32))) (b := (0 : Int32)) rfl (by decide) hc76_18).1) (by decide) (by decide) ?_
          refine XS.lload X0.here hx rfl (hb hby at_84) rfl ?_
          exact kt
        exact ⟨qd, by trivial, pre20⟩
      · have pre21 : ∀ t, Steps p.tables e below (s₁.setTop (mkF m 86 #[.val (.long qa), .second, .val (.long qb), .second, .val (.long qd), .second, .val (.int vc), .val (.int vk), .val (.long qq), .second, .val (.int nk), .val (.long q1), .second, .val (.long q2), .second, .val (.long q3), .second, .val (.long qe1), .second, .unset, .unset, .unset, .unset, .unset, .unset, .unset, .unset, .unset] [(.long qe1)])) t → Steps p.tables e below (s₁.setTop (entryFrame m #[(.long qa), (.long qb), (.long qd), (.int vc), (.int vk), (.long qq)] maxLocals)) t := fun t kt => by
          refine pre19 _ ?_
          show Steps p.tables e below (s₁.setTop (mkF m 76 #[.val (.long qa), .second, .val (.long qb), .second, .val (.long qd), .second, .val (.int vc), .val (.int vk), .val (.long qq), .second, .val (.int nk), .val (.long q1), .second, .val (.long q2), .second, .val (.long q3), .second, .val (.long qe1), .second, .unset, .unset, .unset, .unset, .unset, .unset, .unset, .unset, .unset] [(.int (vk &&& (16 : Int32)))])) _
          refine XS.ifNo X0.here hx rfl (hb hby at_76) rfl (own_if (own_feq (a := (vk &&& (16 : Int32))) (b := (0 : Int32)) rfl (by decide) hc76_18).1) ?_
          refine XS.lload X0.here hx rfl (hb hby at_79) rfl ?_
          refine XS.goto X0.here hx rfl (pc0 := 81) (pc' := 86) rfl (hb hby at_81) (by decide) (by decide) ?_
          exact kt
        exact ⟨qe1, by trivial, pre21⟩
    · have pre22 : ∀ t, Steps p.tables e below (s₁.setTop (mkF m 86 #[.val (.long qa), .second, .val (.long qb), .second, .val (.long qd), .second, .val (.int vc), .val (.int vk), .val (.long qq), .second, .val (.int nk), .val (.long q1), .second, .val (.long q2), .second, .val (.long q3), .second, .val (.long qe1), .second, .unset, .unset, .unset, .unset, .unset, .unset, .unset, .unset, .unset] [(.long qa)])) t → Steps p.tables e below (s₁.setTop (entryFrame m #[(.long qa), (.long qb), (.long qd), (.int vc), (.int vk), (.long qq)] maxLocals)) t := fun t kt => by
        refine pre17 _ ?_
        show Steps p.tables e below (s₁.setTop (mkF m 64 #[.val (.long qa), .second, .val (.long qb), .second, .val (.long qd), .second, .val (.int vc), .val (.int vk), .val (.long qq), .second, .val (.int nk), .val (.long q1), .second, .val (.long q2), .second, .val (.long q3), .second, .val (.long qe1), .second, .unset, .unset, .unset, .unset, .unset, .unset, .unset, .unset, .unset] [(.int (vk &&& (8 : Int32)))])) _
        refine XS.ifNo X0.here hx rfl (hb hby at_64) rfl (own_if (own_feq (a := (vk &&& (8 : Int32))) (b := (0 : Int32)) rfl (by decide) hc64_16).1) ?_
        refine XS.lloadN X0.here hx rfl (hb hby at_67) rfl ?_
        refine XS.goto X0.here hx rfl (pc0 := 68) (pc' := 86) rfl (hb hby at_68) (by decide) (by decide) ?_
        exact kt
      exact ⟨qa, by trivial, pre22⟩
  have pre24 : ∀ t, Steps p.tables e below (s₁.setTop (mkF m 88 #[.val (.long qa), .second, .val (.long qb), .second, .val (.long qd), .second, .val (.int vc), .val (.int vk), .val (.long qq), .second, .val (.int nk), .val (.long q1), .second, .val (.long q2), .second, .val (.long q3), .second, .val (.long qe1), .second, .val (.long qe2), .second, .unset, .unset, .unset, .unset, .unset, .unset, .unset] [])) t → Steps p.tables e below (s₁.setTop (entryFrame m #[(.long qa), (.long qb), (.long qd), (.int vc), (.int vk), (.long qq)] maxLocals)) t := fun t kt => by
    refine pre23 _ ?_
    refine XS.lstore X0.here hx rfl (hb hby at_86) rfl (l' := #[.val (.long qa), .second, .val (.long qb), .second, .val (.long qd), .second, .val (.int vc), .val (.int vk), .val (.long qq), .second, .val (.int nk), .val (.long q1), .second, .val (.long q2), .second, .val (.long q3), .second, .val (.long qe1), .second, .val (.long qe2), .second, .unset, .unset, .unset, .unset, .unset, .unset, .unset]) rfl ?_
    exact kt
  obtain ⟨qr, hqr, pre29⟩ : ∃ qr : Int64, (True) ∧ ∀ t, Steps p.tables e below (s₁.setTop (mkF m 107 #[.val (.long qa), .second, .val (.long qb), .second, .val (.long qd), .second, .val (.int vc), .val (.int vk), .val (.long qq), .second, .val (.int nk), .val (.long q1), .second, .val (.long q2), .second, .val (.long q3), .second, .val (.long qe1), .second, .val (.long qe2), .second, .unset, .unset, .unset, .unset, .unset, .unset, .unset] [(.long qr)])) t → Steps p.tables e below (s₁.setTop (entryFrame m #[(.long qa), (.long qb), (.long qd), (.int vc), (.int vk), (.long qq)] maxLocals)) t := by
    have pre26 : ∀ t, Steps p.tables e below (s₁.setTop (mkF m 93 #[.val (.long qa), .second, .val (.long qb), .second, .val (.long qd), .second, .val (.int vc), .val (.int vk), .val (.long qq), .second, .val (.int nk), .val (.long q1), .second, .val (.long q2), .second, .val (.long q3), .second, .val (.long qe1), .second, .val (.long qe2), .second, .unset, .unset, .unset, .unset, .unset, .unset, .unset] [(.int (vk &&& (32 : Int32)))])) t → Steps p.tables e below (s₁.setTop (entryFrame m #[(.long qa), (.long qb), (.long qd), (.int vc), (.int vk), (.long qq)] maxLocals)) t := fun t kt => by
      refine pre24 _ ?_
      refine XS.iload X0.here hx rfl (hb hby at_88) rfl ?_
      refine XS.bipush X0.here hx rfl (hb hby at_90) ?_
      refine XS.iand X0.here hx rfl (hb hby at_92) rfl ?_
      exact kt
    by_cases hc93_25 : (vk &&& (32 : Int32)).toInt = (0 : Int)
    · have pre27 : ∀ t, Steps p.tables e below (s₁.setTop (mkF m 107 #[.val (.long qa), .second, .val (.long qb), .second, .val (.long qd), .second, .val (.int vc), .val (.int vk), .val (.long qq), .second, .val (.int nk), .val (.long q1), .second, .val (.long q2), .second, .val (.long q3), .second, .val (.long qe1), .second, .val (.long qe2), .second, .unset, .unset, .unset, .unset, .unset, .unset, .unset] [(.long qq)])) t → Steps p.tables e below (s₁.setTop (entryFrame m #[(.long qa), (.long qb), (.long qd), (.int vc), (.int vk), (.long qq)] maxLocals)) t := fun t kt => by
        refine pre26 _ ?_
        show Steps p.tables e below (s₁.setTop (mkF m 93 #[.val (.long qa), .second, .val (.long qb), .second, .val (.long qd), .second, .val (.int vc), .val (.int vk), .val (.long qq), .second, .val (.int nk), .val (.long q1), .second, .val (.long q2), .second, .val (.long q3), .second, .val (.long qe1), .second, .val (.long qe2), .second, .unset, .unset, .unset, .unset, .unset, .unset, .unset] [(.int (vk &&& (32 : Int32)))])) _
        refine XS.ifYes X0.here hx rfl (pc0 := 93) (pc' := 105) rfl (hb hby at_93) rfl (own_if (own_teq (a := (vk &&& (32 : Int32))) (b := (0 : Int32)) rfl (by decide) hc93_25).1) (by decide) (by decide) ?_
        refine XS.lload X0.here hx rfl (hb hby at_105) rfl ?_
        exact kt
      exact ⟨qq, by trivial, pre27⟩
    · have pre28 : ∀ t, Steps p.tables e below (s₁.setTop (mkF m 107 #[.val (.long qa), .second, .val (.long qb), .second, .val (.long qd), .second, .val (.int vc), .val (.int vk), .val (.long qq), .second, .val (.int nk), .val (.long q1), .second, .val (.long q2), .second, .val (.long q3), .second, .val (.long qe1), .second, .val (.long qe2), .second, .unset, .unset, .unset, .unset, .unset, .unset, .unset] [(.long (qq - (qq / (800 : Int64)) * (800 : Int64)))])) t → Steps p.tables e below (s₁.setTop (entryFrame m #[(.long qa), (.long qb), (.long qd), (.int vc), (.int vk), (.long qq)] maxLocals)) t := fun t kt => by
        refine pre26 _ ?_
        show Steps p.tables e below (s₁.setTop (mkF m 93 #[.val (.long qa), .second, .val (.long qb), .second, .val (.long qd), .second, .val (.int vc), .val (.int vk), .val (.long qq), .second, .val (.int nk), .val (.long q1), .second, .val (.long q2), .second, .val (.long q3), .second, .val (.long qe1), .second, .val (.long qe2), .second, .unset, .unset, .unset, .unset, .unset, .unset, .unset] [(.int (vk &&& (32 : Int32)))])) _
        refine XS.ifNo X0.here hx rfl (hb hby at_93) rfl (own_if (own_feq (a := (vk &&& (32 : Int32))) (b := (0 : Int32)) rfl (by decide) hc93_25).1) ?_
        refine XS.lload X0.here hx rfl (hb hby at_96) rfl ?_
        refine X0.ldc2Long hx hown (mvT hZ (hw _ (List.mem_of_getElem? (i := 55) rfl))) (g := (mkF m 98 #[.val (.long qa), .second, .val (.long qb), .second, .val (.long qd), .second, .val (.int vc), .val (.int vk), .val (.long qq), .second, .val (.int nk), .val (.long q1), .second, .val (.long q2), .second, .val (.long q3), .second, .val (.long qe1), .second, .val (.long qe2), .second, .unset, .unset, .unset, .unset, .unset, .unset, .unset] [(.long qq)])) rfl (hb hby at_98) _ ?_
        refine XS.lrem X0.here hx rfl (hb hby at_101) rfl (by decide) ?_
        show Steps p.tables e below (s₁.setTop (mkF m 102 #[.val (.long qa), .second, .val (.long qb), .second, .val (.long qd), .second, .val (.int vc), .val (.int vk), .val (.long qq), .second, .val (.int nk), .val (.long q1), .second, .val (.long q2), .second, .val (.long q3), .second, .val (.long qe1), .second, .val (.long qe2), .second, .unset, .unset, .unset, .unset, .unset, .unset, .unset] [(.long (qq - (qq / (800 : Int64)) * (800 : Int64)))])) _
        refine XS.goto X0.here hx rfl (pc0 := 102) (pc' := 107) rfl (hb hby at_102) (by decide) (by decide) ?_
        exact kt
      exact ⟨(qq - (qq / (800 : Int64)) * (800 : Int64)), by trivial, pre28⟩
  obtain ⟨T30, h30, X30, e30, E30, A30, D30, -, st30⟩ := newO X0 hx hZ hown (hw _ (List.mem_of_getElem? (i := 0) rfl)) (hw _ (List.mem_of_getElem? (i := 1) rfl)) (hw _ (List.mem_of_getElem? (i := 2) rfl)) e0 (g := (mkF m 109 #[.val (.long qa), .second, .val (.long qb), .second, .val (.long qd), .second, .val (.int vc), .val (.int vk), .val (.long qq), .second, .val (.int nk), .val (.long q1), .second, .val (.long q2), .second, .val (.long q3), .second, .val (.long qe1), .second, .val (.long qe2), .second, .val (.long qr), .second, .unset, .unset, .unset, .unset, .unset] [])) rfl (hb hby at_109) (by decide) (by decide)
  obtain ⟨b30, g30⟩ : ∃ z, z = h0.size := ⟨_, rfl⟩
  have g_b30 : n0 ≤ b30 := Nat.le_trans Z0 (Nat.le_of_eq g30.symm)
  have sz_b30 : h0.size ≤ b30 := Nat.le_trans (Keep.refl h0 []).1 (Nat.le_of_eq g30.symm)
  rw [← g30] at A30 D30 st30
  have Zs31 : n0 ≤ h30.size := Nat.le_trans Z0 E30.1
  have F30_ends : Fld Z h30 b30 "com/example/foreslot/foreslot/CountsByEnd" "ends" "[J" .null := D30 (Or.inl (hw _ (List.mem_of_getElem? (i := 11) rfl))) (ty := (.array .long)) (by decide)
  have F30_counts : Fld Z h30 b30 "com/example/foreslot/foreslot/CountsByEnd" "counts" "[J" .null := D30 (Or.inl (hw _ (List.mem_of_getElem? (i := 13) rfl))) (ty := (.array .long)) (by decide)
  have F30_size : Fld Z h30 b30 "com/example/foreslot/foreslot/CountsByEnd" "size" "I" (.int (0 : Int32)) := D30 (Or.inl (hw _ (List.mem_of_getElem? (i := 20) rfl))) (ty := .int) (by decide)
  obtain ⟨_, _, ⟨T32, L32, k32, n32⟩, -, X32, ⟨Lc32, hQ32, l32, y32, z32⟩, st32⟩ := X30.specialBack hx (y := (⟨"com/example/foreslot/foreslot/CountsByEnd", "<init>", "()V"⟩ : MethodName)) rfl hown (mvT hZ (hw _ (List.mem_of_getElem? (i := 3) rfl))) (mvT hZ (hw _ (List.mem_of_getElem? (i := 4) rfl))) (mvT hZ (hw _ (List.mem_of_getElem? (i := 5) rfl))) (by decide) (backOf (W := 1) (rm1 l Z a0 hw [] b30 h30 n0 Zs31 A30 F30_ends F30_counts F30_size g_b30) hZ (hw _ (List.mem_of_getElem? (i := 5) rfl)) (hw _ (List.mem_of_getElem? (i := 2) rfl)) (by decide) (by decide)) (g := (mkF m 113 #[.val (.long qa), .second, .val (.long qb), .second, .val (.long qd), .second, .val (.int vc), .val (.int vk), .val (.long qq), .second, .val (.int nk), .val (.long q1), .second, .val (.long q2), .second, .val (.long q3), .second, .val (.long qe1), .second, .val (.long qe2), .second, .val (.long qr), .second, .unset, .unset, .unset, .unset, .unset] [(.ref b30), (.ref b30)])) rfl (by rw [hml]; rfl) (Steps.refl _) (a := b30) (argsL := []) (rest := [(.ref b30)]) (lenOf pd_2 rfl) rfl (by show 2 * 0 + _ ≤ _; exact Nat.le_of_eq rfl) (hb hby at_113) (fun _ _ => ⟨rfl, e30, (by decide : 1 + 2 ≤ _), (by decide : 3 + 32 ≤ _)⟩)
  dsimp only [Pt.U, Pt.locs, Pt.cells, Pt.slots] at X32 l32 y32 z32 st32 hQ32
  subst l32 y32 z32
  obtain ⟨rfl, N32q, K32, A32, ea, ca, kE, kC, ge, gc, nae, nac, nec, se, sc, F0, F1, F2, V0, V1⟩ := hQ32
  have N32 := Fr.app N0 N32q
  have Zs33 : n0 ≤ T32.heap.size := Nat.le_trans Zs31 K32.1
  have pre35 : ∀ t, Steps p.tables e below (T32.setTop (mkF m 124 #[.val (.long qa), .second, .val (.long qb), .second, .val (.long qd), .second, .val (.int vc), .val (.int vk), .val (.long qq), .second, .val (.int nk), .val (.long q1), .second, .val (.long q2), .second, .val (.long q3), .second, .val (.long qe1), .second, .val (.long qe2), .second, .val (.long qr), .second, .val (.ref b30), .val (.long (0 : Int64)), .second, .unset, .unset] [(.int (1 : Int32)), (.int nk)])) t → Steps p.tables e below (s₁.setTop (entryFrame m #[(.long qa), (.long qb), (.long qd), (.int vc), (.int vk), (.long qq)] maxLocals)) t := fun t kt => by
    refine pre29 _ ?_
    refine XS.lstore X0.here hx rfl (hb hby at_107) rfl (l' := #[.val (.long qa), .second, .val (.long qb), .second, .val (.long qd), .second, .val (.int vc), .val (.int vk), .val (.long qq), .second, .val (.int nk), .val (.long q1), .second, .val (.long q2), .second, .val (.long q3), .second, .val (.long qe1), .second, .val (.long qe2), .second, .val (.long qr), .second, .unset, .unset, .unset, .unset, .unset]) rfl ?_
    refine st30 _ ?_
    refine XS.dup X30.here hx rfl (hb hby at_112) rfl rfl ?_
    show Steps p.tables e below (T30.setTop (mkF m 113 #[.val (.long qa), .second, .val (.long qb), .second, .val (.long qd), .second, .val (.int vc), .val (.int vk), .val (.long qq), .second, .val (.int nk), .val (.long q1), .second, .val (.long q2), .second, .val (.long q3), .second, .val (.long qe1), .second, .val (.long qe2), .second, .val (.long qr), .second, .unset, .unset, .unset, .unset, .unset] [(.ref b30), (.ref b30)])) _
    refine st32.trans ?_
    refine XS.astore X32.here hx rfl (hb hby at_116) rfl rfl (l' := #[.val (.long qa), .second, .val (.long qb), .second, .val (.long qd), .second, .val (.int vc), .val (.int vk), .val (.long qq), .second, .val (.int nk), .val (.long q1), .second, .val (.long q2), .second, .val (.long q3), .second, .val (.long qe1), .second, .val (.long qe2), .second, .val (.long qr), .second, .val (.ref b30), .unset, .unset, .unset, .unset]) rfl ?_
    refine XS.lconst X32.here hx rfl (hb hby at_118) ?_
    refine XS.lstore X32.here hx rfl (hb hby at_119) rfl (l' := #[.val (.long qa), .second, .val (.long qb), .second, .val (.long qd), .second, .val (.int vc), .val (.int vk), .val (.long qq), .second, .val (.int nk), .val (.long q1), .second, .val (.long q2), .second, .val (.long q3), .second, .val (.long qe1), .second, .val (.long qe2), .second, .val (.long qr), .second, .val (.ref b30), .val (.long (0 : Int64)), .second, .unset, .unset]) rfl ?_
    refine XS.iload X32.here hx rfl (hb hby at_121) rfl ?_
    show Steps p.tables e below (T32.setTop (mkF m 123 #[.val (.long qa), .second, .val (.long qb), .second, .val (.long qd), .second, .val (.int vc), .val (.int vk), .val (.long qq), .second, .val (.int nk), .val (.long q1), .second, .val (.long q2), .second, .val (.long q3), .second, .val (.long qe1), .second, .val (.long qe2), .second, .val (.long qr), .second, .val (.ref b30), .val (.long (0 : Int64)), .second, .unset, .unset] [(.int nk)])) _
    refine XS.iconst X32.here hx rfl (hb hby at_123) ?_
    exact kt
  by_cases hc124_34 : nk.toInt < (1 : Int)
  · have hc145_36 : nk.toInt < (2 : Int) := by omega
    have hc167_37 : nk.toInt < (3 : Int) := by omega
    obtain ⟨cq38, kq38, q38a, q38b, q38c⟩ := isOf hZ rfl A32
    obtain ⟨_, _, ⟨T38, L38, k38, n38⟩, -, X38, ⟨Lc38, hQ38, l38, y38, z38⟩, st38⟩ := X32.virtualBack hx (y := (⟨"com/example/foreslot/foreslot/CountsByEnd", "firstReaching", "(J)I"⟩ : MethodName)) (z := (⟨"com/example/foreslot/foreslot/CountsByEnd", "firstReaching", "(J)I"⟩ : MethodName)) hown (mvT hZ (hw _ (List.mem_of_getElem? (i := 35) rfl))) (mvT hZ (hw _ (List.mem_of_getElem? (i := 36) rfl))) (notFace_of_selects (args := #[]) (mvT hZ (hw _ (List.mem_of_getElem? (i := 38) rfl)))) (mvT hZ (hw _ (List.mem_of_getElem? (i := 38) rfl))) (mvT hZ (hw _ (List.mem_of_getElem? (i := 37) rfl))) (by decide) (backOf (W := 0) (rm_fr0 l Z a0 hw [] b30 qr ea ca kE kC T32.heap n0 Zs33 A32 F0 F1 F2 V0 V1 (by omega)) hZ (hw _ (List.mem_of_getElem? (i := 39) rfl)) (hw _ (List.mem_of_getElem? (i := 2) rfl)) (by decide) (by decide)) q38a q38c (g := (mkF m 190 #[.val (.long qa), .second, .val (.long qb), .second, .val (.long qd), .second, .val (.int vc), .val (.int vk), .val (.long qq), .second, .val (.int nk), .val (.long q1), .second, .val (.long q2), .second, .val (.long q3), .second, .val (.long qe1), .second, .val (.long qe2), .second, .val (.long qr), .second, .val (.ref b30), .val (.long (0 : Int64)), .second, .unset, .unset] [(.long qr), (.ref b30)])) rfl (by rw [hml]; rfl) (Steps.refl _) (argsL := [(.long qr)]) (rest := []) (lenOf pd_3 rfl) rfl (by show 2 * 0 + _ ≤ _; exact Nat.le_of_eq rfl) (hb hby at_190) (fun _ _ => ⟨rfl, rfl, (by decide : 3 + 0 ≤ _), (by decide : 35 + 0 ≤ _)⟩)
    dsimp only [Pt.U, Pt.locs, Pt.cells, Pt.slots] at X38 l38 y38 z38 st38 hQ38
    subst l38 y38 z38
    obtain ⟨zr, rfl, hzr, N38q, e38⟩ := hQ38
    have N38 := Fr.app N32 N38q
    have pre39 : ∀ t, Steps p.tables e below (T38.setTop (mkF m 193 #[.val (.long qa), .second, .val (.long qb), .second, .val (.long qd), .second, .val (.int vc), .val (.int vk), .val (.long qq), .second, .val (.int nk), .val (.long q1), .second, .val (.long q2), .second, .val (.long q3), .second, .val (.long qe1), .second, .val (.long qe2), .second, .val (.long qr), .second, .val (.ref b30), .val (.long (0 : Int64)), .second, .unset, .unset] [(.int zr)])) t → Steps p.tables e below (s₁.setTop (entryFrame m #[(.long qa), (.long qb), (.long qd), (.int vc), (.int vk), (.long qq)] maxLocals)) t := fun t kt => by
      refine pre35 _ ?_
      show Steps p.tables e below (T32.setTop (mkF m 124 #[.val (.long qa), .second, .val (.long qb), .second, .val (.long qd), .second, .val (.int vc), .val (.int vk), .val (.long qq), .second, .val (.int nk), .val (.long q1), .second, .val (.long q2), .second, .val (.long q3), .second, .val (.long qe1), .second, .val (.long qe2), .second, .val (.long qr), .second, .val (.ref b30), .val (.long (0 : Int64)), .second, .unset, .unset] [(.int (1 : Int32)), (.int nk)])) _
      refine XS.icmpYes X32.here hx rfl (pc0 := 124) (pc' := 142) rfl (hb hby at_124) rfl (own_tlt (a := nk) (b := (1 : Int32)) rfl (by decide) hc124_34).1 (by decide) (by decide) ?_
      refine XS.iload X32.here hx rfl (hb hby at_142) rfl ?_
      refine XS.iconst X32.here hx rfl (hb hby at_144) ?_
      show Steps p.tables e below (T32.setTop (mkF m 145 #[.val (.long qa), .second, .val (.long qb), .second, .val (.long qd), .second, .val (.int vc), .val (.int vk), .val (.long qq), .second, .val (.int nk), .val (.long q1), .second, .val (.long q2), .second, .val (.long q3), .second, .val (.long qe1), .second, .val (.long qe2), .second, .val (.long qr), .second, .val (.ref b30), .val (.long (0 : Int64)), .second, .unset, .unset] [(.int (2 : Int32)), (.int nk)])) _
      refine XS.icmpYes X32.here hx rfl (pc0 := 145) (pc' := 164) rfl (hb hby at_145) rfl (own_tlt (a := nk) (b := (2 : Int32)) rfl (by decide) hc145_36).1 (by decide) (by decide) ?_
      refine XS.iload X32.here hx rfl (hb hby at_164) rfl ?_
      refine XS.iconst X32.here hx rfl (hb hby at_166) ?_
      refine XS.icmpYes X32.here hx rfl (pc0 := 167) (pc' := 186) rfl (hb hby at_167) rfl (own_tlt (a := nk) (b := (3 : Int32)) rfl (by decide) hc167_37).1 (by decide) (by decide) ?_
      refine XS.aload X32.here hx rfl (hb hby at_186) rfl rfl ?_
      show Steps p.tables e below (T32.setTop (mkF m 188 #[.val (.long qa), .second, .val (.long qb), .second, .val (.long qd), .second, .val (.int vc), .val (.int vk), .val (.long qq), .second, .val (.int nk), .val (.long q1), .second, .val (.long q2), .second, .val (.long q3), .second, .val (.long qe1), .second, .val (.long qe2), .second, .val (.long qr), .second, .val (.ref b30), .val (.long (0 : Int64)), .second, .unset, .unset] [(.ref b30)])) _
      refine XS.lload X32.here hx rfl (hb hby at_188) rfl ?_
      refine st38.trans ?_
      exact kt
    rcases hzr with rfl
    have pre40 : ∀ t, Steps p.tables e below (T38.setTop (mkF m 193 #[.val (.long qa), .second, .val (.long qb), .second, .val (.long qd), .second, .val (.int vc), .val (.int vk), .val (.long qq), .second, .val (.int nk), .val (.long q1), .second, .val (.long q2), .second, .val (.long q3), .second, .val (.long qe1), .second, .val (.long qe2), .second, .val (.long qr), .second, .val (.ref b30), .val (.long (0 : Int64)), .second, .unset, .unset] [(.int (0 : Int32))])) t → Steps p.tables e below (s₁.setTop (entryFrame m #[(.long qa), (.long qb), (.long qd), (.int vc), (.int vk), (.long qq)] maxLocals)) t := pre39
    obtain ⟨cq41, kq41, q41a, q41b, q41c⟩ := isOf hZ e38 A32
    obtain ⟨_, _, ⟨T41, L41, k41, n41⟩, -, X41, ⟨Lc41, hQ41, l41, y41, z41⟩, st41⟩ := X38.virtualBack hx (y := (⟨"com/example/foreslot/foreslot/CountsByEnd", "size", "()I"⟩ : MethodName)) (z := (⟨"com/example/foreslot/foreslot/CountsByEnd", "size", "()I"⟩ : MethodName)) hown (mvT hZ (hw _ (List.mem_of_getElem? (i := 40) rfl))) (mvT hZ (hw _ (List.mem_of_getElem? (i := 41) rfl))) (notFace_of_selects (args := #[]) (mvT hZ (hw _ (List.mem_of_getElem? (i := 43) rfl)))) (mvT hZ (hw _ (List.mem_of_getElem? (i := 43) rfl))) (mvT hZ (hw _ (List.mem_of_getElem? (i := 42) rfl))) (by decide) (backOf (W := 0) (rm_sz0 l Z a0 hw [] b30 ea ca kE kC T32.heap n0 Zs33 A32 F0 F1 F2 V0 V1) hZ (hw _ (List.mem_of_getElem? (i := 44) rfl)) (hw _ (List.mem_of_getElem? (i := 2) rfl)) (by decide) (by decide)) q41a q41c (g := (mkF m 197 #[.val (.long qa), .second, .val (.long qb), .second, .val (.long qd), .second, .val (.int vc), .val (.int vk), .val (.long qq), .second, .val (.int nk), .val (.long q1), .second, .val (.long q2), .second, .val (.long q3), .second, .val (.long qe1), .second, .val (.long qe2), .second, .val (.long qr), .second, .val (.ref b30), .val (.long (0 : Int64)), .second, .val (.int (0 : Int32)), .unset] [(.ref b30)])) rfl (by rw [hml]; rfl) (Steps.refl _) (argsL := []) (rest := []) (lenOf pd_4 rfl) rfl (by show 2 * 0 + _ ≤ _; exact Nat.le_of_eq rfl) (hb hby at_197) (fun _ _ => ⟨rfl, e38, (by decide : 3 + 0 ≤ _), (by decide : 35 + 0 ≤ _)⟩)
    dsimp only [Pt.U, Pt.locs, Pt.cells, Pt.slots] at X41 l41 y41 z41 st41 hQ41
    subst l41 y41 z41
    obtain ⟨zs, rfl, hzs, N41q, e41⟩ := hQ41
    have N41 := Fr.app N38 N41q
    have pre42 : ∀ t, Steps p.tables e below (T41.setTop (mkF m 200 #[.val (.long qa), .second, .val (.long qb), .second, .val (.long qd), .second, .val (.int vc), .val (.int vk), .val (.long qq), .second, .val (.int nk), .val (.long q1), .second, .val (.long q2), .second, .val (.long q3), .second, .val (.long qe1), .second, .val (.long qe2), .second, .val (.long qr), .second, .val (.ref b30), .val (.long (0 : Int64)), .second, .val (.int (0 : Int32)), .unset] [(.int zs)])) t → Steps p.tables e below (s₁.setTop (entryFrame m #[(.long qa), (.long qb), (.long qd), (.int vc), (.int vk), (.long qq)] maxLocals)) t := fun t kt => by
      refine pre40 _ ?_
      refine XS.istore X38.here hx rfl (hb hby at_193) rfl (l' := #[.val (.long qa), .second, .val (.long qb), .second, .val (.long qd), .second, .val (.int vc), .val (.int vk), .val (.long qq), .second, .val (.int nk), .val (.long q1), .second, .val (.long q2), .second, .val (.long q3), .second, .val (.long qe1), .second, .val (.long qe2), .second, .val (.long qr), .second, .val (.ref b30), .val (.long (0 : Int64)), .second, .val (.int (0 : Int32)), .unset]) rfl ?_
      refine XS.aload X38.here hx rfl (hb hby at_195) rfl rfl ?_
      refine st41.trans ?_
      exact kt
    subst hzs
    have pre43 : ∀ t, Steps p.tables e below (T41.setTop (mkF m 200 #[.val (.long qa), .second, .val (.long qb), .second, .val (.long qd), .second, .val (.int vc), .val (.int vk), .val (.long qq), .second, .val (.int nk), .val (.long q1), .second, .val (.long q2), .second, .val (.long q3), .second, .val (.long qe1), .second, .val (.long qe2), .second, .val (.long qr), .second, .val (.ref b30), .val (.long (0 : Int64)), .second, .val (.int (0 : Int32)), .unset] [(.int (0 : Int32))])) t → Steps p.tables e below (s₁.setTop (entryFrame m #[(.long qa), (.long qb), (.long qd), (.int vc), (.int vk), (.long qq)] maxLocals)) t := pre42
    have hc204_44 : ¬ ((0 : Int) < (0 : Int)) := by decide
    have hc211_45 : ¬ ((0 : Int) < (0 : Int)) := by decide
    have hc220_46 : ¬ ((0 : Int) < (0 : Int)) := by decide
    have hc245_47 : ¬ ((0 : Int) < (0 : Int)) := by decide
    have hc260_48 : ¬ ((0 : Int) < (0 : Int)) := by decide
    obtain ⟨fs, hr, hrun, hended, hW, hsame⟩ := X41.leave (v := some (.int (1 : Int32))) (fun h => by rw [Bd.returns] at h; cases h)
    refine ⟨_, _, pre43 _ ?_, hrun, hended, _, _, rfl, ?_, ⟨_, rfl⟩, hW, hsame.mono (by decide) (by decide)⟩
    · show Steps p.tables e below (T41.setTop (mkF m 200 #[.val (.long qa), .second, .val (.long qb), .second, .val (.long qd), .second, .val (.int vc), .val (.int vk), .val (.long qq), .second, .val (.int nk), .val (.long q1), .second, .val (.long q2), .second, .val (.long q3), .second, .val (.long qe1), .second, .val (.long qe2), .second, .val (.long qr), .second, .val (.ref b30), .val (.long (0 : Int64)), .second, .val (.int (0 : Int32)), .unset] [(.int (0 : Int32))])) _
      refine XS.istore X41.here hx rfl (hb hby at_200) rfl (l' := #[.val (.long qa), .second, .val (.long qb), .second, .val (.long qd), .second, .val (.int vc), .val (.int vk), .val (.long qq), .second, .val (.int nk), .val (.long q1), .second, .val (.long q2), .second, .val (.long q3), .second, .val (.long qe1), .second, .val (.long qe2), .second, .val (.long qr), .second, .val (.ref b30), .val (.long (0 : Int64)), .second, .val (.int (0 : Int32)), .val (.int (0 : Int32))]) rfl ?_
      refine XS.iload X41.here hx rfl (hb hby at_202) rfl ?_
      refine XS.ifNo X41.here hx rfl (hb hby at_204) rfl (own_if (own_flt (a := (0 : Int32)) (b := (0 : Int32)) (by decide) (by decide) hc204_44).1) ?_
      refine XS.iload X41.here hx rfl (hb hby at_207) rfl ?_
      refine XS.iload X41.here hx rfl (hb hby at_209) rfl ?_
      show Steps p.tables e below (T41.setTop (mkF m 211 #[.val (.long qa), .second, .val (.long qb), .second, .val (.long qd), .second, .val (.int vc), .val (.int vk), .val (.long qq), .second, .val (.int nk), .val (.long q1), .second, .val (.long q2), .second, .val (.long q3), .second, .val (.long qe1), .second, .val (.long qe2), .second, .val (.long qr), .second, .val (.ref b30), .val (.long (0 : Int64)), .second, .val (.int (0 : Int32)), .val (.int (0 : Int32))] [(.int (0 : Int32)), (.int (0 : Int32))])) _
      refine XS.icmpYes X41.here hx rfl (pc0 := 211) (pc' := 216) rfl (hb hby at_211) rfl (own_flt (a := (0 : Int32)) (b := (0 : Int32)) (by decide) (by decide) hc211_45).2.2.2 (by decide) (by decide) ?_
      refine XS.iload X41.here hx rfl (hb hby at_216) rfl ?_
      refine XS.iload X41.here hx rfl (hb hby at_218) rfl ?_
      refine XS.icmpYes X41.here hx rfl (pc0 := 220) (pc' := 243) rfl (hb hby at_220) rfl (own_flt (a := (0 : Int32)) (b := (0 : Int32)) (by decide) (by decide) hc220_46).2.1 (by decide) (by decide) ?_
      refine XS.iload X41.here hx rfl (hb hby at_243) rfl ?_
      show Steps p.tables e below (T41.setTop (mkF m 245 #[.val (.long qa), .second, .val (.long qb), .second, .val (.long qd), .second, .val (.int vc), .val (.int vk), .val (.long qq), .second, .val (.int nk), .val (.long q1), .second, .val (.long q2), .second, .val (.long q3), .second, .val (.long qe1), .second, .val (.long qe2), .second, .val (.long qr), .second, .val (.ref b30), .val (.long (0 : Int64)), .second, .val (.int (0 : Int32)), .val (.int (0 : Int32))] [(.int (0 : Int32))])) _
      refine XS.ifYes X41.here hx rfl (pc0 := 245) (pc' := 258) rfl (hb hby at_245) rfl (own_if (own_flt (a := (0 : Int32)) (b := (0 : Int32)) (by decide) (by decide) hc245_47).2.2.2) (by decide) (by decide) ?_
      refine XS.iload X41.here hx rfl (hb hby at_258) rfl ?_
      refine XS.ifYes X41.here hx rfl (pc0 := 260) (pc' := 285) rfl (hb hby at_260) rfl (own_if (own_flt (a := (0 : Int32)) (b := (0 : Int32)) (by decide) (by decide) hc260_48).2.2.2) (by decide) (by decide) ?_
      refine XS.iconst X41.here hx rfl (hb hby at_285) ?_
      exact retN X41 hx (t := .boolean) Bd.returns (by simp) (hb hby at_286) hr
    · show Q0 Z qa qb qd vc vk qq h0 n0 _ T41.heap _
      rw [e41]
      exact ⟨rfl, N41⟩
  · obtain ⟨cq49, kq49, q49a, q49b, q49c⟩ := isOf hZ rfl A32
    obtain ⟨_, _, ⟨T49, L49, k49, n49⟩, -, X49, ⟨Lc49, hQ49, l49, y49, z49⟩, st49⟩ := X32.virtualBack hx (y := (⟨"com/example/foreslot/foreslot/CountsByEnd", "add", "(JJ)V"⟩ : MethodName)) (z := (⟨"com/example/foreslot/foreslot/CountsByEnd", "add", "(JJ)V"⟩ : MethodName)) hown (mvT hZ (hw _ (List.mem_of_getElem? (i := 14) rfl))) (mvT hZ (hw _ (List.mem_of_getElem? (i := 15) rfl))) (notFace_of_selects (args := #[]) (mvT hZ (hw _ (List.mem_of_getElem? (i := 17) rfl)))) (mvT hZ (hw _ (List.mem_of_getElem? (i := 17) rfl))) (mvT hZ (hw _ (List.mem_of_getElem? (i := 16) rfl))) (by decide) (backOf (W := 0) (rm_add0 l Z a0 hw [] b30 qa q1 ea ca kE kC T32.heap n0 Zs33 A32 F0 F1 F2 V0 V1 g_b30 ge gc nae nac nec (by omega) (by omega)) hZ (hw _ (List.mem_of_getElem? (i := 18) rfl)) (hw _ (List.mem_of_getElem? (i := 2) rfl)) (by decide) (by decide)) q49a q49c (g := (mkF m 132 #[.val (.long qa), .second, .val (.long qb), .second, .val (.long qd), .second, .val (.int vc), .val (.int vk), .val (.long qq), .second, .val (.int nk), .val (.long q1), .second, .val (.long q2), .second, .val (.long q3), .second, .val (.long qe1), .second, .val (.long qe2), .second, .val (.long qr), .second, .val (.ref b30), .val (.long (0 : Int64)), .second, .unset, .unset] [(.long q1), (.long qa), (.ref b30)])) rfl (by rw [hml]; rfl) (Steps.refl _) (argsL := [(.long qa), (.long q1)]) (rest := []) (lenOf pd_5 rfl) rfl (by show 2 * 0 + _ ≤ _; exact Nat.le_of_eq rfl) (hb hby at_132) (fun _ _ => ⟨rfl, rfl, (by decide : 3 + 0 ≤ _), (by decide : 35 + 0 ≤ _)⟩)
    dsimp only [Pt.U, Pt.locs, Pt.cells, Pt.slots] at X49 l49 y49 z49 st49 hQ49
    subst l49 y49 z49
    obtain ⟨rfl, N49q, K49, A49, Fe49, Fc49, hO49⟩ := hQ49
    have N49 := Fr.app N32 N49q
    have Zs50 : n0 ≤ T49.heap.size := Nat.le_trans Zs33 K49.1
    have pre52 : ∀ t, Steps p.tables e below (T49.setTop (mkF m 135 #[.val (.long qa), .second, .val (.long qb), .second, .val (.long qd), .second, .val (.int vc), .val (.int vk), .val (.long qq), .second, .val (.int nk), .val (.long q1), .second, .val (.long q2), .second, .val (.long q3), .second, .val (.long qe1), .second, .val (.long qe2), .second, .val (.long qr), .second, .val (.ref b30), .val (.long (0 : Int64)), .second, .unset, .unset] [])) t → Steps p.tables e below (s₁.setTop (entryFrame m #[(.long qa), (.long qb), (.long qd), (.int vc), (.int vk), (.long qq)] maxLocals)) t := fun t kt => by
      refine pre35 _ ?_
      show Steps p.tables e below (T32.setTop (mkF m 124 #[.val (.long qa), .second, .val (.long qb), .second, .val (.long qd), .second, .val (.int vc), .val (.int vk), .val (.long qq), .second, .val (.int nk), .val (.long q1), .second, .val (.long q2), .second, .val (.long q3), .second, .val (.long qe1), .second, .val (.long qe2), .second, .val (.long qr), .second, .val (.ref b30), .val (.long (0 : Int64)), .second, .unset, .unset] [(.int (1 : Int32)), (.int nk)])) _
      refine XS.icmpNo X32.here hx rfl (hb hby at_124) rfl (own_flt (a := nk) (b := (1 : Int32)) rfl (by decide) hc124_34).1 ?_
      refine XS.aload X32.here hx rfl (hb hby at_127) rfl rfl ?_
      refine XS.lloadN X32.here hx rfl (hb hby at_129) rfl ?_
      show Steps p.tables e below (T32.setTop (mkF m 130 #[.val (.long qa), .second, .val (.long qb), .second, .val (.long qd), .second, .val (.int vc), .val (.int vk), .val (.long qq), .second, .val (.int nk), .val (.long q1), .second, .val (.long q2), .second, .val (.long q3), .second, .val (.long qe1), .second, .val (.long qe2), .second, .val (.long qr), .second, .val (.ref b30), .val (.long (0 : Int64)), .second, .unset, .unset] [(.long qa), (.ref b30)])) _
      refine XS.lload X32.here hx rfl (hb hby at_130) rfl ?_
      refine st49.trans ?_
      exact kt
    rcases hO49 with ⟨y51_0, d51_0, F2_51, V0_51, V1_51, p51_0, t_51, hs_51⟩
    have own_mark51 := True.intro
    have pre53 : ∀ t, Steps p.tables e below (T49.setTop (mkF m 140 #[.val (.long qa), .second, .val (.long qb), .second, .val (.long qd), .second, .val (.int vc), .val (.int vk), .val (.long qq), .second, .val (.int nk), .val (.long q1), .second, .val (.long q2), .second, .val (.long q3), .second, .val (.long qe1), .second, .val (.long qe2), .second, .val (.long qr), .second, .val (.ref b30), .val (.long (0 : Int64)), .second, .unset, .unset] [(.long ((0 : Int64) + q1))])) t → Steps p.tables e below (s₁.setTop (entryFrame m #[(.long qa), (.long qb), (.long qd), (.int vc), (.int vk), (.long qq)] maxLocals)) t := fun t kt => by
      refine pre52 _ ?_
      refine XS.lload X49.here hx rfl (hb hby at_135) rfl ?_
      refine XS.lload X49.here hx rfl (hb hby at_137) rfl ?_
      refine XS.ladd X49.here hx rfl (hb hby at_139) rfl ?_
      exact kt
    obtain ⟨tt1, htt1⟩ : ∃ z : Int64, z = ((0 : Int64) + q1) := ⟨_, rfl⟩
    have itt1 : tt1.toInt = q1.toInt := by rw [htt1]; have := rng64 q1; (first | (have : (((0 : Int64) + q1)).toInt = (0 : Int) + q1.toInt := (by have : ((((0 : Int64) + q1)).toInt - ((0 : Int) + q1.toInt)) % 18446744073709551616 = 0 := c_ladd (0 : Int64) q1; have := rng64 ((0 : Int64) + q1); omega)) | (have : ((((0 : Int64) + q1)).toInt - ((0 : Int) + q1.toInt)) % 18446744073709551616 = 0 := c_ladd (0 : Int64) q1; have := rng64 ((0 : Int64) + q1))); omega
    have pre54 : ∀ t, Steps p.tables e below (T49.setTop (mkF m 140 #[.val (.long qa), .second, .val (.long qb), .second, .val (.long qd), .second, .val (.int vc), .val (.int vk), .val (.long qq), .second, .val (.int nk), .val (.long q1), .second, .val (.long q2), .second, .val (.long q3), .second, .val (.long qe1), .second, .val (.long qe2), .second, .val (.long qr), .second, .val (.ref b30), .val (.long (0 : Int64)), .second, .unset, .unset] [(.long tt1)])) t → Steps p.tables e below (s₁.setTop (entryFrame m #[(.long qa), (.long qb), (.long qd), (.int vc), (.int vk), (.long qq)] maxLocals)) t := by rw [htt1]; exact pre53
    have pre56 : ∀ t, Steps p.tables e below (T49.setTop (mkF m 145 #[.val (.long qa), .second, .val (.long qb), .second, .val (.long qd), .second, .val (.int vc), .val (.int vk), .val (.long qq), .second, .val (.int nk), .val (.long q1), .second, .val (.long q2), .second, .val (.long q3), .second, .val (.long qe1), .second, .val (.long qe2), .second, .val (.long qr), .second, .val (.ref b30), .val (.long tt1), .second, .unset, .unset] [(.int (2 : Int32)), (.int nk)])) t → Steps p.tables e below (s₁.setTop (entryFrame m #[(.long qa), (.long qb), (.long qd), (.int vc), (.int vk), (.long qq)] maxLocals)) t := fun t kt => by
      refine pre54 _ ?_
      show Steps p.tables e below (T49.setTop (mkF m 140 #[.val (.long qa), .second, .val (.long qb), .second, .val (.long qd), .second, .val (.int vc), .val (.int vk), .val (.long qq), .second, .val (.int nk), .val (.long q1), .second, .val (.long q2), .second, .val (.long q3), .second, .val (.long qe1), .second, .val (.long qe2), .second, .val (.long qr), .second, .val (.ref b30), .val (.long (0 : Int64)), .second, .unset, .unset] [(.long tt1)])) _
      refine XS.lstore X49.here hx rfl (hb hby at_140) rfl (l' := #[.val (.long qa), .second, .val (.long qb), .second, .val (.long qd), .second, .val (.int vc), .val (.int vk), .val (.long qq), .second, .val (.int nk), .val (.long q1), .second, .val (.long q2), .second, .val (.long q3), .second, .val (.long qe1), .second, .val (.long qe2), .second, .val (.long qr), .second, .val (.ref b30), .val (.long tt1), .second, .unset, .unset]) rfl ?_
      refine XS.iload X49.here hx rfl (hb hby at_142) rfl ?_
      refine XS.iconst X49.here hx rfl (hb hby at_144) ?_
      exact kt
    by_cases hc145_55 : nk.toInt < (2 : Int)
    · have hc167_57 : nk.toInt < (3 : Int) := by omega
      obtain ⟨cq58, kq58, q58a, q58b, q58c⟩ := isOf hZ rfl A49
      obtain ⟨_, _, ⟨T58, L58, k58, n58⟩, -, X58, ⟨Lc58, hQ58, l58, y58, z58⟩, st58⟩ := X49.virtualBack hx (y := (⟨"com/example/foreslot/foreslot/CountsByEnd", "firstReaching", "(J)I"⟩ : MethodName)) (z := (⟨"com/example/foreslot/foreslot/CountsByEnd", "firstReaching", "(J)I"⟩ : MethodName)) hown (mvT hZ (hw _ (List.mem_of_getElem? (i := 35) rfl))) (mvT hZ (hw _ (List.mem_of_getElem? (i := 36) rfl))) (notFace_of_selects (args := #[]) (mvT hZ (hw _ (List.mem_of_getElem? (i := 38) rfl)))) (mvT hZ (hw _ (List.mem_of_getElem? (i := 38) rfl))) (mvT hZ (hw _ (List.mem_of_getElem? (i := 37) rfl))) (by decide) (backOf (W := 0) (rm_fr1 l Z a0 hw [] b30 qr ea ca kE kC y51_0 d51_0 T49.heap n0 Zs50 A49 Fe49 Fc49 F2_51 V0_51 V1_51 (by omega) (by omega)) hZ (hw _ (List.mem_of_getElem? (i := 39) rfl)) (hw _ (List.mem_of_getElem? (i := 2) rfl)) (by decide) (by decide)) q58a q58c (g := (mkF m 190 #[.val (.long qa), .second, .val (.long qb), .second, .val (.long qd), .second, .val (.int vc), .val (.int vk), .val (.long qq), .second, .val (.int nk), .val (.long q1), .second, .val (.long q2), .second, .val (.long q3), .second, .val (.long qe1), .second, .val (.long qe2), .second, .val (.long qr), .second, .val (.ref b30), .val (.long tt1), .second, .unset, .unset] [(.long qr), (.ref b30)])) rfl (by rw [hml]; rfl) (Steps.refl _) (argsL := [(.long qr)]) (rest := []) (lenOf pd_3 rfl) rfl (by show 2 * 0 + _ ≤ _; exact Nat.le_of_eq rfl) (hb hby at_190) (fun _ _ => ⟨rfl, rfl, (by decide : 3 + 0 ≤ _), (by decide : 35 + 0 ≤ _)⟩)
      dsimp only [Pt.U, Pt.locs, Pt.cells, Pt.slots] at X58 l58 y58 z58 st58 hQ58
      subst l58 y58 z58
      obtain ⟨zr, rfl, hzr, N58q, e58⟩ := hQ58
      have N58 := Fr.app N49 N58q
      have pre59 : ∀ t, Steps p.tables e below (T58.setTop (mkF m 193 #[.val (.long qa), .second, .val (.long qb), .second, .val (.long qd), .second, .val (.int vc), .val (.int vk), .val (.long qq), .second, .val (.int nk), .val (.long q1), .second, .val (.long q2), .second, .val (.long q3), .second, .val (.long qe1), .second, .val (.long qe2), .second, .val (.long qr), .second, .val (.ref b30), .val (.long tt1), .second, .unset, .unset] [(.int zr)])) t → Steps p.tables e below (s₁.setTop (entryFrame m #[(.long qa), (.long qb), (.long qd), (.int vc), (.int vk), (.long qq)] maxLocals)) t := fun t kt => by
        refine pre56 _ ?_
        show Steps p.tables e below (T49.setTop (mkF m 145 #[.val (.long qa), .second, .val (.long qb), .second, .val (.long qd), .second, .val (.int vc), .val (.int vk), .val (.long qq), .second, .val (.int nk), .val (.long q1), .second, .val (.long q2), .second, .val (.long q3), .second, .val (.long qe1), .second, .val (.long qe2), .second, .val (.long qr), .second, .val (.ref b30), .val (.long tt1), .second, .unset, .unset] [(.int (2 : Int32)), (.int nk)])) _
        refine XS.icmpYes X49.here hx rfl (pc0 := 145) (pc' := 164) rfl (hb hby at_145) rfl (own_tlt (a := nk) (b := (2 : Int32)) rfl (by decide) hc145_55).1 (by decide) (by decide) ?_
        show Steps p.tables e below (T49.setTop (mkF m 164 #[.val (.long qa), .second, .val (.long qb), .second, .val (.long qd), .second, .val (.int vc), .val (.int vk), .val (.long qq), .second, .val (.int nk), .val (.long q1), .second, .val (.long q2), .second, .val (.long q3), .second, .val (.long qe1), .second, .val (.long qe2), .second, .val (.long qr), .second, .val (.ref b30), .val (.long tt1), .second, .unset, .unset] [])) _
        refine XS.iload X49.here hx rfl (hb hby at_164) rfl ?_
        refine XS.iconst X49.here hx rfl (hb hby at_166) ?_
        refine XS.icmpYes X49.here hx rfl (pc0 := 167) (pc' := 186) rfl (hb hby at_167) rfl (own_tlt (a := nk) (b := (3 : Int32)) rfl (by decide) hc167_57).1 (by decide) (by decide) ?_
        refine XS.aload X49.here hx rfl (hb hby at_186) rfl rfl ?_
        refine XS.lload X49.here hx rfl (hb hby at_188) rfl ?_
        show Steps p.tables e below (T49.setTop (mkF m 190 #[.val (.long qa), .second, .val (.long qb), .second, .val (.long qd), .second, .val (.int vc), .val (.int vk), .val (.long qq), .second, .val (.int nk), .val (.long q1), .second, .val (.long q2), .second, .val (.long q3), .second, .val (.long qe1), .second, .val (.long qe2), .second, .val (.long qr), .second, .val (.ref b30), .val (.long tt1), .second, .unset, .unset] [(.long qr), (.ref b30)])) _
        refine st58.trans ?_
        exact kt
      rcases hzr with ⟨rfl, hz0⟩ | ⟨rfl, hz0⟩
      · have pre60 : ∀ t, Steps p.tables e below (T58.setTop (mkF m 193 #[.val (.long qa), .second, .val (.long qb), .second, .val (.long qd), .second, .val (.int vc), .val (.int vk), .val (.long qq), .second, .val (.int nk), .val (.long q1), .second, .val (.long q2), .second, .val (.long q3), .second, .val (.long qe1), .second, .val (.long qe2), .second, .val (.long qr), .second, .val (.ref b30), .val (.long tt1), .second, .unset, .unset] [(.int (0 : Int32))])) t → Steps p.tables e below (s₁.setTop (entryFrame m #[(.long qa), (.long qb), (.long qd), (.int vc), (.int vk), (.long qq)] maxLocals)) t := pre59
        obtain ⟨cq61, kq61, q61a, q61b, q61c⟩ := isOf hZ e58 A49
        obtain ⟨_, _, ⟨T61, L61, k61, n61⟩, -, X61, ⟨Lc61, hQ61, l61, y61, z61⟩, st61⟩ := X58.virtualBack hx (y := (⟨"com/example/foreslot/foreslot/CountsByEnd", "size", "()I"⟩ : MethodName)) (z := (⟨"com/example/foreslot/foreslot/CountsByEnd", "size", "()I"⟩ : MethodName)) hown (mvT hZ (hw _ (List.mem_of_getElem? (i := 40) rfl))) (mvT hZ (hw _ (List.mem_of_getElem? (i := 41) rfl))) (notFace_of_selects (args := #[]) (mvT hZ (hw _ (List.mem_of_getElem? (i := 43) rfl)))) (mvT hZ (hw _ (List.mem_of_getElem? (i := 43) rfl))) (mvT hZ (hw _ (List.mem_of_getElem? (i := 42) rfl))) (by decide) (backOf (W := 0) (rm_sz1 l Z a0 hw [] b30 ea ca kE kC y51_0 d51_0 T49.heap n0 Zs50 A49 Fe49 Fc49 F2_51 V0_51 V1_51) hZ (hw _ (List.mem_of_getElem? (i := 44) rfl)) (hw _ (List.mem_of_getElem? (i := 2) rfl)) (by decide) (by decide)) q61a q61c (g := (mkF m 197 #[.val (.long qa), .second, .val (.long qb), .second, .val (.long qd), .second, .val (.int vc), .val (.int vk), .val (.long qq), .second, .val (.int nk), .val (.long q1), .second, .val (.long q2), .second, .val (.long q3), .second, .val (.long qe1), .second, .val (.long qe2), .second, .val (.long qr), .second, .val (.ref b30), .val (.long tt1), .second, .val (.int (0 : Int32)), .unset] [(.ref b30)])) rfl (by rw [hml]; rfl) (Steps.refl _) (argsL := []) (rest := []) (lenOf pd_4 rfl) rfl (by show 2 * 0 + _ ≤ _; exact Nat.le_of_eq rfl) (hb hby at_197) (fun _ _ => ⟨rfl, e58, (by decide : 3 + 0 ≤ _), (by decide : 35 + 0 ≤ _)⟩)
        dsimp only [Pt.U, Pt.locs, Pt.cells, Pt.slots] at X61 l61 y61 z61 st61 hQ61
        subst l61 y61 z61
        obtain ⟨zs, rfl, hzs, N61q, e61⟩ := hQ61
        have N61 := Fr.app N58 N61q
        have pre62 : ∀ t, Steps p.tables e below (T61.setTop (mkF m 200 #[.val (.long qa), .second, .val (.long qb), .second, .val (.long qd), .second, .val (.int vc), .val (.int vk), .val (.long qq), .second, .val (.int nk), .val (.long q1), .second, .val (.long q2), .second, .val (.long q3), .second, .val (.long qe1), .second, .val (.long qe2), .second, .val (.long qr), .second, .val (.ref b30), .val (.long tt1), .second, .val (.int (0 : Int32)), .unset] [(.int zs)])) t → Steps p.tables e below (s₁.setTop (entryFrame m #[(.long qa), (.long qb), (.long qd), (.int vc), (.int vk), (.long qq)] maxLocals)) t := fun t kt => by
          refine pre60 _ ?_
          refine XS.istore X58.here hx rfl (hb hby at_193) rfl (l' := #[.val (.long qa), .second, .val (.long qb), .second, .val (.long qd), .second, .val (.int vc), .val (.int vk), .val (.long qq), .second, .val (.int nk), .val (.long q1), .second, .val (.long q2), .second, .val (.long q3), .second, .val (.long qe1), .second, .val (.long qe2), .second, .val (.long qr), .second, .val (.ref b30), .val (.long tt1), .second, .val (.int (0 : Int32)), .unset]) rfl ?_
          refine XS.aload X58.here hx rfl (hb hby at_195) rfl rfl ?_
          refine st61.trans ?_
          exact kt
        subst hzs
        have pre63 : ∀ t, Steps p.tables e below (T61.setTop (mkF m 200 #[.val (.long qa), .second, .val (.long qb), .second, .val (.long qd), .second, .val (.int vc), .val (.int vk), .val (.long qq), .second, .val (.int nk), .val (.long q1), .second, .val (.long q2), .second, .val (.long q3), .second, .val (.long qe1), .second, .val (.long qe2), .second, .val (.long qr), .second, .val (.ref b30), .val (.long tt1), .second, .val (.int (0 : Int32)), .unset] [(.int (1 : Int32))])) t → Steps p.tables e below (s₁.setTop (entryFrame m #[(.long qa), (.long qb), (.long qd), (.int vc), (.int vk), (.long qq)] maxLocals)) t := pre62
        have hc204_64 : ¬ ((0 : Int) < (0 : Int)) := by decide
        have hc211_65 : ¬ ((1 : Int) < (0 : Int)) := by decide
        have hc220_66 : (0 : Int) < (1 : Int) := by decide
        obtain ⟨cq67, kq67, q67a, q67b, q67c⟩ := isOf hZ e61 A49
        obtain ⟨_, _, ⟨T67, L67, k67, n67⟩, -, X67, ⟨Lc67, hQ67, l67, y67, z67⟩, st67⟩ := X61.virtualBack hx (y := (⟨"com/example/foreslot/foreslot/CountsByEnd", "end", "(I)J"⟩ : MethodName)) (z := (⟨"com/example/foreslot/foreslot/CountsByEnd", "end", "(I)J"⟩ : MethodName)) hown (mvT hZ (hw _ (List.mem_of_getElem? (i := 45) rfl))) (mvT hZ (hw _ (List.mem_of_getElem? (i := 46) rfl))) (notFace_of_selects (args := #[]) (mvT hZ (hw _ (List.mem_of_getElem? (i := 48) rfl)))) (mvT hZ (hw _ (List.mem_of_getElem? (i := 48) rfl))) (mvT hZ (hw _ (List.mem_of_getElem? (i := 47) rfl))) (by decide) (backOf (W := 1) (rm_e1_0 l Z a0 hw [] b30 ea ca kE kC y51_0 d51_0 T49.heap n0 Zs50 A49 Fe49 Fc49 F2_51 V0_51 V1_51) hZ (hw _ (List.mem_of_getElem? (i := 49) rfl)) (hw _ (List.mem_of_getElem? (i := 2) rfl)) (by decide) (by decide)) q67a q67c (g := (mkF m 229 #[.val (.long qa), .second, .val (.long qb), .second, .val (.long qd), .second, .val (.int vc), .val (.int vk), .val (.long qq), .second, .val (.int nk), .val (.long q1), .second, .val (.long q2), .second, .val (.long q3), .second, .val (.long qe1), .second, .val (.long qe2), .second, .val (.long qr), .second, .val (.ref b30), .val (.long tt1), .second, .val (.int (0 : Int32)), .val (.int (1 : Int32))] [(.int (0 : Int32)), (.ref b30), (.ref b30)])) rfl (by rw [hml]; rfl) (Steps.refl _) (argsL := [(.int (0 : Int32))]) (rest := [(.ref b30)]) (lenOf pd_6 rfl) rfl (by show 2 * 0 + _ ≤ _; exact Nat.le_of_eq rfl) (hb hby at_229) (fun _ _ => ⟨rfl, e61, (by decide : 3 + 0 ≤ _), (by decide : 35 + 0 ≤ _)⟩)
        dsimp only [Pt.U, Pt.locs, Pt.cells, Pt.slots] at X67 l67 y67 z67 st67 hQ67
        subst l67 y67 z67
        obtain ⟨ze, rfl, hze, N67q, e67⟩ := hQ67
        have N67 := Fr.app N61 N67q
        obtain ⟨cq68, kq68, q68a, q68b, q68c⟩ := isOf hZ e67 A49
        obtain ⟨_, _, ⟨T68, L68, k68, n68⟩, -, X68, ⟨Lc68, hQ68, l68, y68, z68⟩, st68⟩ := X67.virtualBack hx (y := (⟨"com/example/foreslot/foreslot/CountsByEnd", "heldUntilAtLatest", "(J)J"⟩ : MethodName)) (z := (⟨"com/example/foreslot/foreslot/CountsByEnd", "heldUntilAtLatest", "(J)J"⟩ : MethodName)) hown (mvT hZ (hw _ (List.mem_of_getElem? (i := 50) rfl))) (mvT hZ (hw _ (List.mem_of_getElem? (i := 51) rfl))) (notFace_of_selects (args := #[]) (mvT hZ (hw _ (List.mem_of_getElem? (i := 53) rfl)))) (mvT hZ (hw _ (List.mem_of_getElem? (i := 53) rfl))) (mvT hZ (hw _ (List.mem_of_getElem? (i := 52) rfl))) (by decide) (backOf (W := 0) (rm_h1 l Z a0 hw [] b30 ze ea ca kE kC y51_0 d51_0 T49.heap n0 Zs50 A49 Fe49 Fc49 F2_51 V0_51 V1_51 (by omega) (by omega)) hZ (hw _ (List.mem_of_getElem? (i := 54) rfl)) (hw _ (List.mem_of_getElem? (i := 2) rfl)) (by decide) (by decide)) q68a q68c (g := (mkF m 232 #[.val (.long qa), .second, .val (.long qb), .second, .val (.long qd), .second, .val (.int vc), .val (.int vk), .val (.long qq), .second, .val (.int nk), .val (.long q1), .second, .val (.long q2), .second, .val (.long q3), .second, .val (.long qe1), .second, .val (.long qe2), .second, .val (.long qr), .second, .val (.ref b30), .val (.long tt1), .second, .val (.int (0 : Int32)), .val (.int (1 : Int32))] [(.long ze), (.ref b30)])) rfl (by rw [hml]; rfl) (Steps.refl _) (argsL := [(.long ze)]) (rest := []) (lenOf pd_7 rfl) rfl (by show 2 * 0 + _ ≤ _; exact Nat.le_of_eq rfl) (hb hby at_232) (fun _ _ => ⟨rfl, e67, (by decide : 3 + 0 ≤ _), (by decide : 35 + 0 ≤ _)⟩)
        dsimp only [Pt.U, Pt.locs, Pt.cells, Pt.slots] at X68 l68 y68 z68 st68 hQ68
        subst l68 y68 z68
        obtain ⟨hd, rfl, hhd, N68q, e68⟩ := hQ68
        have N68 := Fr.app N67 N68q
        have hc238_69 : ¬ (hd.toInt < qr.toInt) := by rw [own_fp (x := y51_0.toInt) (by omega)] at hhd; omega
        have hc260_70 : ¬ ((0 : Int) < (0 : Int)) := by decide
        obtain ⟨fs, hr, hrun, hended, hW, hsame⟩ := X68.leave (v := some (.int (1 : Int32))) (fun h => by rw [Bd.returns] at h; cases h)
        refine ⟨_, _, pre63 _ ?_, hrun, hended, _, _, rfl, ?_, ⟨_, rfl⟩, hW, hsame.mono (by decide) (by decide)⟩
        · refine XS.istore X61.here hx rfl (hb hby at_200) rfl (l' := #[.val (.long qa), .second, .val (.long qb), .second, .val (.long qd), .second, .val (.int vc), .val (.int vk), .val (.long qq), .second, .val (.int nk), .val (.long q1), .second, .val (.long q2), .second, .val (.long q3), .second, .val (.long qe1), .second, .val (.long qe2), .second, .val (.long qr), .second, .val (.ref b30), .val (.long tt1), .second, .val (.int (0 : Int32)), .val (.int (1 : Int32))]) rfl ?_
          show Steps p.tables e below (T61.setTop (mkF m 202 #[.val (.long qa), .second, .val (.long qb), .second, .val (.long qd), .second, .val (.int vc), .val (.int vk), .val (.long qq), .second, .val (.int nk), .val (.long q1), .second, .val (.long q2), .second, .val (.long q3), .second, .val (.long qe1), .second, .val (.long qe2), .second, .val (.long qr), .second, .val (.ref b30), .val (.long tt1), .second, .val (.int (0 : Int32)), .val (.int (1 : Int32))] [])) _
          refine XS.iload X61.here hx rfl (hb hby at_202) rfl ?_
          refine XS.ifNo X61.here hx rfl (hb hby at_204) rfl (own_if (own_flt (a := (0 : Int32)) (b := (0 : Int32)) (by decide) (by decide) hc204_64).1) ?_
          refine XS.iload X61.here hx rfl (hb hby at_207) rfl ?_
          refine XS.iload X61.here hx rfl (hb hby at_209) rfl ?_
          refine XS.icmpYes X61.here hx rfl (pc0 := 211) (pc' := 216) rfl (hb hby at_211) rfl (own_flt (a := (1 : Int32)) (b := (0 : Int32)) (by decide) (by decide) hc211_65).2.2.2 (by decide) (by decide) ?_
          show Steps p.tables e below (T61.setTop (mkF m 216 #[.val (.long qa), .second, .val (.long qb), .second, .val (.long qd), .second, .val (.int vc), .val (.int vk), .val (.long qq), .second, .val (.int nk), .val (.long q1), .second, .val (.long q2), .second, .val (.long q3), .second, .val (.long qe1), .second, .val (.long qe2), .second, .val (.long qr), .second, .val (.ref b30), .val (.long tt1), .second, .val (.int (0 : Int32)), .val (.int (1 : Int32))] [])) _
          refine XS.iload X61.here hx rfl (hb hby at_216) rfl ?_
          refine XS.iload X61.here hx rfl (hb hby at_218) rfl ?_
          refine XS.icmpNo X61.here hx rfl (hb hby at_220) rfl (own_tlt (a := (0 : Int32)) (b := (1 : Int32)) (by decide) (by decide) hc220_66).2.1 ?_
          refine XS.aload X61.here hx rfl (hb hby at_223) rfl rfl ?_
          refine XS.aload X61.here hx rfl (hb hby at_225) rfl rfl ?_
          show Steps p.tables e below (T61.setTop (mkF m 227 #[.val (.long qa), .second, .val (.long qb), .second, .val (.long qd), .second, .val (.int vc), .val (.int vk), .val (.long qq), .second, .val (.int nk), .val (.long q1), .second, .val (.long q2), .second, .val (.long q3), .second, .val (.long qe1), .second, .val (.long qe2), .second, .val (.long qr), .second, .val (.ref b30), .val (.long tt1), .second, .val (.int (0 : Int32)), .val (.int (1 : Int32))] [(.ref b30), (.ref b30)])) _
          refine XS.iload X61.here hx rfl (hb hby at_227) rfl ?_
          refine st67.trans ?_
          refine st68.trans ?_
          refine XS.lload X68.here hx rfl (hb hby at_235) rfl ?_
          refine XS.lcmp X68.here hx rfl (hb hby at_237) rfl ?_
          show Steps p.tables e below (T68.setTop (mkF m 238 #[.val (.long qa), .second, .val (.long qb), .second, .val (.long qd), .second, .val (.int vc), .val (.int vk), .val (.long qq), .second, .val (.int nk), .val (.long q1), .second, .val (.long q2), .second, .val (.long q3), .second, .val (.long qe1), .second, .val (.long qe2), .second, .val (.long qr), .second, .val (.ref b30), .val (.long tt1), .second, .val (.int (0 : Int32)), .val (.int (1 : Int32))] [(.int (lcmpW hd qr))])) _
          refine XS.ifYes X68.here hx rfl (pc0 := 238) (pc' := 258) rfl (hb hby at_238) rfl (own_if (own_fltL (x := hd) (y := qr) rfl rfl hc238_69).2) (by decide) (by decide) ?_
          refine XS.iload X68.here hx rfl (hb hby at_258) rfl ?_
          refine XS.ifYes X68.here hx rfl (pc0 := 260) (pc' := 285) rfl (hb hby at_260) rfl (own_if (own_flt (a := (0 : Int32)) (b := (0 : Int32)) (by decide) (by decide) hc260_70).2.2.2) (by decide) (by decide) ?_
          refine XS.iconst X68.here hx rfl (hb hby at_285) ?_
          exact retN X68 hx (t := .boolean) Bd.returns (by simp) (hb hby at_286) hr
        · show Q0 Z qa qb qd vc vk qq h0 n0 _ T68.heap _
          rw [e68]
          exact ⟨rfl, N68⟩
      · have pre71 : ∀ t, Steps p.tables e below (T58.setTop (mkF m 193 #[.val (.long qa), .second, .val (.long qb), .second, .val (.long qd), .second, .val (.int vc), .val (.int vk), .val (.long qq), .second, .val (.int nk), .val (.long q1), .second, .val (.long q2), .second, .val (.long q3), .second, .val (.long qe1), .second, .val (.long qe2), .second, .val (.long qr), .second, .val (.ref b30), .val (.long tt1), .second, .unset, .unset] [(.int (1 : Int32))])) t → Steps p.tables e below (s₁.setTop (entryFrame m #[(.long qa), (.long qb), (.long qd), (.int vc), (.int vk), (.long qq)] maxLocals)) t := pre59
        obtain ⟨cq72, kq72, q72a, q72b, q72c⟩ := isOf hZ e58 A49
        obtain ⟨_, _, ⟨T72, L72, k72, n72⟩, -, X72, ⟨Lc72, hQ72, l72, y72, z72⟩, st72⟩ := X58.virtualBack hx (y := (⟨"com/example/foreslot/foreslot/CountsByEnd", "size", "()I"⟩ : MethodName)) (z := (⟨"com/example/foreslot/foreslot/CountsByEnd", "size", "()I"⟩ : MethodName)) hown (mvT hZ (hw _ (List.mem_of_getElem? (i := 40) rfl))) (mvT hZ (hw _ (List.mem_of_getElem? (i := 41) rfl))) (notFace_of_selects (args := #[]) (mvT hZ (hw _ (List.mem_of_getElem? (i := 43) rfl)))) (mvT hZ (hw _ (List.mem_of_getElem? (i := 43) rfl))) (mvT hZ (hw _ (List.mem_of_getElem? (i := 42) rfl))) (by decide) (backOf (W := 0) (rm_sz1 l Z a0 hw [] b30 ea ca kE kC y51_0 d51_0 T49.heap n0 Zs50 A49 Fe49 Fc49 F2_51 V0_51 V1_51) hZ (hw _ (List.mem_of_getElem? (i := 44) rfl)) (hw _ (List.mem_of_getElem? (i := 2) rfl)) (by decide) (by decide)) q72a q72c (g := (mkF m 197 #[.val (.long qa), .second, .val (.long qb), .second, .val (.long qd), .second, .val (.int vc), .val (.int vk), .val (.long qq), .second, .val (.int nk), .val (.long q1), .second, .val (.long q2), .second, .val (.long q3), .second, .val (.long qe1), .second, .val (.long qe2), .second, .val (.long qr), .second, .val (.ref b30), .val (.long tt1), .second, .val (.int (1 : Int32)), .unset] [(.ref b30)])) rfl (by rw [hml]; rfl) (Steps.refl _) (argsL := []) (rest := []) (lenOf pd_4 rfl) rfl (by show 2 * 0 + _ ≤ _; exact Nat.le_of_eq rfl) (hb hby at_197) (fun _ _ => ⟨rfl, e58, (by decide : 3 + 0 ≤ _), (by decide : 35 + 0 ≤ _)⟩)
        dsimp only [Pt.U, Pt.locs, Pt.cells, Pt.slots] at X72 l72 y72 z72 st72 hQ72
        subst l72 y72 z72
        obtain ⟨zs, rfl, hzs, N72q, e72⟩ := hQ72
        have N72 := Fr.app N58 N72q
        have pre73 : ∀ t, Steps p.tables e below (T72.setTop (mkF m 200 #[.val (.long qa), .second, .val (.long qb), .second, .val (.long qd), .second, .val (.int vc), .val (.int vk), .val (.long qq), .second, .val (.int nk), .val (.long q1), .second, .val (.long q2), .second, .val (.long q3), .second, .val (.long qe1), .second, .val (.long qe2), .second, .val (.long qr), .second, .val (.ref b30), .val (.long tt1), .second, .val (.int (1 : Int32)), .unset] [(.int zs)])) t → Steps p.tables e below (s₁.setTop (entryFrame m #[(.long qa), (.long qb), (.long qd), (.int vc), (.int vk), (.long qq)] maxLocals)) t := fun t kt => by
          refine pre71 _ ?_
          refine XS.istore X58.here hx rfl (hb hby at_193) rfl (l' := #[.val (.long qa), .second, .val (.long qb), .second, .val (.long qd), .second, .val (.int vc), .val (.int vk), .val (.long qq), .second, .val (.int nk), .val (.long q1), .second, .val (.long q2), .second, .val (.long q3), .second, .val (.long qe1), .second, .val (.long qe2), .second, .val (.long qr), .second, .val (.ref b30), .val (.long tt1), .second, .val (.int (1 : Int32)), .unset]) rfl ?_
          refine XS.aload X58.here hx rfl (hb hby at_195) rfl rfl ?_
          refine st72.trans ?_
          exact kt
        subst hzs
        have pre74 : ∀ t, Steps p.tables e below (T72.setTop (mkF m 200 #[.val (.long qa), .second, .val (.long qb), .second, .val (.long qd), .second, .val (.int vc), .val (.int vk), .val (.long qq), .second, .val (.int nk), .val (.long q1), .second, .val (.long q2), .second, .val (.long q3), .second, .val (.long qe1), .second, .val (.long qe2), .second, .val (.long qr), .second, .val (.ref b30), .val (.long tt1), .second, .val (.int (1 : Int32)), .unset] [(.int (1 : Int32))])) t → Steps p.tables e below (s₁.setTop (entryFrame m #[(.long qa), (.long qb), (.long qd), (.int vc), (.int vk), (.long qq)] maxLocals)) t := pre73
        have hc204_75 : ¬ ((1 : Int) < (0 : Int)) := by decide
        have hc211_76 : ¬ ((1 : Int) < (1 : Int)) := by decide
        have hc220_77 : ¬ ((1 : Int) < (1 : Int)) := by decide
        have hc245_78 : (0 : Int) < (1 : Int) := by decide
        have hc253_79 : tt1.toInt < qr.toInt := by omega
        have hc260_80 : (0 : Int) < (1 : Int) := by decide
        obtain ⟨cq81, kq81, q81a, q81b, q81c⟩ := isOf hZ e72 A49
        obtain ⟨_, _, ⟨T81, L81, k81, n81⟩, -, X81, ⟨Lc81, hQ81, l81, y81, z81⟩, st81⟩ := X72.virtualBack hx (y := (⟨"com/example/foreslot/foreslot/CountsByEnd", "end", "(I)J"⟩ : MethodName)) (z := (⟨"com/example/foreslot/foreslot/CountsByEnd", "end", "(I)J"⟩ : MethodName)) hown (mvT hZ (hw _ (List.mem_of_getElem? (i := 45) rfl))) (mvT hZ (hw _ (List.mem_of_getElem? (i := 46) rfl))) (notFace_of_selects (args := #[]) (mvT hZ (hw _ (List.mem_of_getElem? (i := 48) rfl)))) (mvT hZ (hw _ (List.mem_of_getElem? (i := 48) rfl))) (mvT hZ (hw _ (List.mem_of_getElem? (i := 47) rfl))) (by decide) (backOf (W := 1) (rm_e1_0 l Z a0 hw [] b30 ea ca kE kC y51_0 d51_0 T49.heap n0 Zs50 A49 Fe49 Fc49 F2_51 V0_51 V1_51) hZ (hw _ (List.mem_of_getElem? (i := 49) rfl)) (hw _ (List.mem_of_getElem? (i := 2) rfl)) (by decide) (by decide)) q81a q81c (g := (mkF m 271 #[.val (.long qa), .second, .val (.long qb), .second, .val (.long qd), .second, .val (.int vc), .val (.int vk), .val (.long qq), .second, .val (.int nk), .val (.long q1), .second, .val (.long q2), .second, .val (.long q3), .second, .val (.long qe1), .second, .val (.long qe2), .second, .val (.long qr), .second, .val (.ref b30), .val (.long tt1), .second, .val (.int (1 : Int32)), .val (.int (1 : Int32))] [(.int (0 : Int32)), (.ref b30), (.ref b30)])) rfl (by rw [hml]; rfl) (Steps.refl _) (argsL := [(.int (0 : Int32))]) (rest := [(.ref b30)]) (lenOf pd_6 rfl) rfl (by show 2 * 0 + _ ≤ _; exact Nat.le_of_eq rfl) (hb hby at_271) (fun _ _ => ⟨rfl, e72, (by decide : 3 + 0 ≤ _), (by decide : 35 + 0 ≤ _)⟩)
        dsimp only [Pt.U, Pt.locs, Pt.cells, Pt.slots] at X81 l81 y81 z81 st81 hQ81
        subst l81 y81 z81
        obtain ⟨zf, rfl, hzf, N81q, e81⟩ := hQ81
        have N81 := Fr.app N72 N81q
        obtain ⟨cq82, kq82, q82a, q82b, q82c⟩ := isOf hZ e81 A49
        obtain ⟨_, _, ⟨T82, L82, k82, n82⟩, -, X82, ⟨Lc82, hQ82, l82, y82, z82⟩, st82⟩ := X81.virtualBack hx (y := (⟨"com/example/foreslot/foreslot/CountsByEnd", "heldUntilAtLatest", "(J)J"⟩ : MethodName)) (z := (⟨"com/example/foreslot/foreslot/CountsByEnd", "heldUntilAtLatest", "(J)J"⟩ : MethodName)) hown (mvT hZ (hw _ (List.mem_of_getElem? (i := 50) rfl))) (mvT hZ (hw _ (List.mem_of_getElem? (i := 51) rfl))) (notFace_of_selects (args := #[]) (mvT hZ (hw _ (List.mem_of_getElem? (i := 53) rfl)))) (mvT hZ (hw _ (List.mem_of_getElem? (i := 53) rfl))) (mvT hZ (hw _ (List.mem_of_getElem? (i := 52) rfl))) (by decide) (backOf (W := 0) (rm_h1 l Z a0 hw [] b30 zf ea ca kE kC y51_0 d51_0 T49.heap n0 Zs50 A49 Fe49 Fc49 F2_51 V0_51 V1_51 (by omega) (by omega)) hZ (hw _ (List.mem_of_getElem? (i := 54) rfl)) (hw _ (List.mem_of_getElem? (i := 2) rfl)) (by decide) (by decide)) q82a q82c (g := (mkF m 274 #[.val (.long qa), .second, .val (.long qb), .second, .val (.long qd), .second, .val (.int vc), .val (.int vk), .val (.long qq), .second, .val (.int nk), .val (.long q1), .second, .val (.long q2), .second, .val (.long q3), .second, .val (.long qe1), .second, .val (.long qe2), .second, .val (.long qr), .second, .val (.ref b30), .val (.long tt1), .second, .val (.int (1 : Int32)), .val (.int (1 : Int32))] [(.long zf), (.ref b30)])) rfl (by rw [hml]; rfl) (Steps.refl _) (argsL := [(.long zf)]) (rest := []) (lenOf pd_7 rfl) rfl (by show 2 * 0 + _ ≤ _; exact Nat.le_of_eq rfl) (hb hby at_274) (fun _ _ => ⟨rfl, e81, (by decide : 3 + 0 ≤ _), (by decide : 35 + 0 ≤ _)⟩)
        dsimp only [Pt.U, Pt.locs, Pt.cells, Pt.slots] at X82 l82 y82 z82 st82 hQ82
        subst l82 y82 z82
        obtain ⟨hf, rfl, hhf, N82q, e82⟩ := hQ82
        have N82 := Fr.app N81 N82q
        have hc280_83 : hf.toInt < qr.toInt := by rw [own_fp (x := y51_0.toInt) (by omega)] at hhf; omega
        obtain ⟨fs, hr, hrun, hended, hW, hsame⟩ := X82.leave (v := some (.int (1 : Int32))) (fun h => by rw [Bd.returns] at h; cases h)
        refine ⟨_, _, pre74 _ ?_, hrun, hended, _, _, rfl, ?_, ⟨_, rfl⟩, hW, hsame.mono (by decide) (by decide)⟩
        · refine XS.istore X72.here hx rfl (hb hby at_200) rfl (l' := #[.val (.long qa), .second, .val (.long qb), .second, .val (.long qd), .second, .val (.int vc), .val (.int vk), .val (.long qq), .second, .val (.int nk), .val (.long q1), .second, .val (.long q2), .second, .val (.long q3), .second, .val (.long qe1), .second, .val (.long qe2), .second, .val (.long qr), .second, .val (.ref b30), .val (.long tt1), .second, .val (.int (1 : Int32)), .val (.int (1 : Int32))]) rfl ?_
          show Steps p.tables e below (T72.setTop (mkF m 202 #[.val (.long qa), .second, .val (.long qb), .second, .val (.long qd), .second, .val (.int vc), .val (.int vk), .val (.long qq), .second, .val (.int nk), .val (.long q1), .second, .val (.long q2), .second, .val (.long q3), .second, .val (.long qe1), .second, .val (.long qe2), .second, .val (.long qr), .second, .val (.ref b30), .val (.long tt1), .second, .val (.int (1 : Int32)), .val (.int (1 : Int32))] [])) _
          refine XS.iload X72.here hx rfl (hb hby at_202) rfl ?_
          refine XS.ifNo X72.here hx rfl (hb hby at_204) rfl (own_if (own_flt (a := (1 : Int32)) (b := (0 : Int32)) (by decide) (by decide) hc204_75).1) ?_
          refine XS.iload X72.here hx rfl (hb hby at_207) rfl ?_
          refine XS.iload X72.here hx rfl (hb hby at_209) rfl ?_
          refine XS.icmpYes X72.here hx rfl (pc0 := 211) (pc' := 216) rfl (hb hby at_211) rfl (own_flt (a := (1 : Int32)) (b := (1 : Int32)) (by decide) (by decide) hc211_76).2.2.2 (by decide) (by decide) ?_
          show Steps p.tables e below (T72.setTop (mkF m 216 #[.val (.long qa), .second, .val (.long qb), .second, .val (.long qd), .second, .val (.int vc), .val (.int vk), .val (.long qq), .second, .val (.int nk), .val (.long q1), .second, .val (.long q2), .second, .val (.long q3), .second, .val (.long qe1), .second, .val (.long qe2), .second, .val (.long qr), .second, .val (.ref b30), .val (.long tt1), .second, .val (.int (1 : Int32)), .val (.int (1 : Int32))] [])) _
          refine XS.iload X72.here hx rfl (hb hby at_216) rfl ?_
          refine XS.iload X72.here hx rfl (hb hby at_218) rfl ?_
          refine XS.icmpYes X72.here hx rfl (pc0 := 220) (pc' := 243) rfl (hb hby at_220) rfl (own_flt (a := (1 : Int32)) (b := (1 : Int32)) (by decide) (by decide) hc220_77).2.1 (by decide) (by decide) ?_
          refine XS.iload X72.here hx rfl (hb hby at_243) rfl ?_
          refine XS.ifNo X72.here hx rfl (hb hby at_245) rfl (own_if (own_tlt (a := (0 : Int32)) (b := (1 : Int32)) (by decide) (by decide) hc245_78).2.2.2) ?_
          show Steps p.tables e below (T72.setTop (mkF m 248 #[.val (.long qa), .second, .val (.long qb), .second, .val (.long qd), .second, .val (.int vc), .val (.int vk), .val (.long qq), .second, .val (.int nk), .val (.long q1), .second, .val (.long q2), .second, .val (.long q3), .second, .val (.long qe1), .second, .val (.long qe2), .second, .val (.long qr), .second, .val (.ref b30), .val (.long tt1), .second, .val (.int (1 : Int32)), .val (.int (1 : Int32))] [])) _
          refine XS.lload X72.here hx rfl (hb hby at_248) rfl ?_
          refine XS.lload X72.here hx rfl (hb hby at_250) rfl ?_
          refine XS.lcmp X72.here hx rfl (hb hby at_252) rfl ?_
          refine XS.ifYes X72.here hx rfl (pc0 := 253) (pc' := 258) rfl (hb hby at_253) rfl (own_if (own_tltL (x := tt1) (y := qr) rfl rfl hc253_79).1) (by decide) (by decide) ?_
          refine XS.iload X72.here hx rfl (hb hby at_258) rfl ?_
          show Steps p.tables e below (T72.setTop (mkF m 260 #[.val (.long qa), .second, .val (.long qb), .second, .val (.long qd), .second, .val (.int vc), .val (.int vk), .val (.long qq), .second, .val (.int nk), .val (.long q1), .second, .val (.long q2), .second, .val (.long q3), .second, .val (.long qe1), .second, .val (.long qe2), .second, .val (.long qr), .second, .val (.ref b30), .val (.long tt1), .second, .val (.int (1 : Int32)), .val (.int (1 : Int32))] [(.int (1 : Int32))])) _
          refine XS.ifNo X72.here hx rfl (hb hby at_260) rfl (own_if (own_tlt (a := (0 : Int32)) (b := (1 : Int32)) (by decide) (by decide) hc260_80).2.2.2) ?_
          refine XS.aload X72.here hx rfl (hb hby at_263) rfl rfl ?_
          refine XS.aload X72.here hx rfl (hb hby at_265) rfl rfl ?_
          refine XS.iload X72.here hx rfl (hb hby at_267) rfl ?_
          refine XS.iconst X72.here hx rfl (hb hby at_269) ?_
          show Steps p.tables e below (T72.setTop (mkF m 270 #[.val (.long qa), .second, .val (.long qb), .second, .val (.long qd), .second, .val (.int vc), .val (.int vk), .val (.long qq), .second, .val (.int nk), .val (.long q1), .second, .val (.long q2), .second, .val (.long q3), .second, .val (.long qe1), .second, .val (.long qe2), .second, .val (.long qr), .second, .val (.ref b30), .val (.long tt1), .second, .val (.int (1 : Int32)), .val (.int (1 : Int32))] [(.int (1 : Int32)), (.int (1 : Int32)), (.ref b30), (.ref b30)])) _
          refine XS.isub X72.here hx rfl (hb hby at_270) rfl ?_
          refine st81.trans ?_
          refine st82.trans ?_
          refine XS.lload X82.here hx rfl (hb hby at_277) rfl ?_
          refine XS.lcmp X82.here hx rfl (hb hby at_279) rfl ?_
          show Steps p.tables e below (T82.setTop (mkF m 280 #[.val (.long qa), .second, .val (.long qb), .second, .val (.long qd), .second, .val (.int vc), .val (.int vk), .val (.long qq), .second, .val (.int nk), .val (.long q1), .second, .val (.long q2), .second, .val (.long q3), .second, .val (.long qe1), .second, .val (.long qe2), .second, .val (.long qr), .second, .val (.ref b30), .val (.long tt1), .second, .val (.int (1 : Int32)), .val (.int (1 : Int32))] [(.int (lcmpW hf qr))])) _
          refine XS.ifYes X82.here hx rfl (pc0 := 280) (pc' := 285) rfl (hb hby at_280) rfl (own_if (own_tltL (x := hf) (y := qr) rfl rfl hc280_83).1) (by decide) (by decide) ?_
          refine XS.iconst X82.here hx rfl (hb hby at_285) ?_
          exact retN X82 hx (t := .boolean) Bd.returns (by simp) (hb hby at_286) hr
        · show Q0 Z qa qb qd vc vk qq h0 n0 _ T82.heap _
          rw [e82]
          exact ⟨rfl, N82⟩
    · obtain ⟨cq84, kq84, q84a, q84b, q84c⟩ := isOf hZ rfl A49
      obtain ⟨_, _, ⟨T84, L84, k84, n84⟩, -, X84, ⟨Lc84, hQ84, l84, y84, z84⟩, st84⟩ := X49.virtualBack hx (y := (⟨"com/example/foreslot/foreslot/CountsByEnd", "add", "(JJ)V"⟩ : MethodName)) (z := (⟨"com/example/foreslot/foreslot/CountsByEnd", "add", "(JJ)V"⟩ : MethodName)) hown (mvT hZ (hw _ (List.mem_of_getElem? (i := 14) rfl))) (mvT hZ (hw _ (List.mem_of_getElem? (i := 15) rfl))) (notFace_of_selects (args := #[]) (mvT hZ (hw _ (List.mem_of_getElem? (i := 17) rfl)))) (mvT hZ (hw _ (List.mem_of_getElem? (i := 17) rfl))) (mvT hZ (hw _ (List.mem_of_getElem? (i := 16) rfl))) (by decide) (backOf (W := 0) (rm_add1 l Z a0 hw [] b30 qe1 q2 ea ca kE kC y51_0 d51_0 T49.heap n0 Zs50 A49 Fe49 Fc49 F2_51 V0_51 V1_51 g_b30 ge gc nae nac nec (by omega) (by omega) (by omega)) hZ (hw _ (List.mem_of_getElem? (i := 18) rfl)) (hw _ (List.mem_of_getElem? (i := 2) rfl)) (by decide) (by decide)) q84a q84c (g := (mkF m 154 #[.val (.long qa), .second, .val (.long qb), .second, .val (.long qd), .second, .val (.int vc), .val (.int vk), .val (.long qq), .second, .val (.int nk), .val (.long q1), .second, .val (.long q2), .second, .val (.long q3), .second, .val (.long qe1), .second, .val (.long qe2), .second, .val (.long qr), .second, .val (.ref b30), .val (.long tt1), .second, .unset, .unset] [(.long q2), (.long qe1), (.ref b30)])) rfl (by rw [hml]; rfl) (Steps.refl _) (argsL := [(.long qe1), (.long q2)]) (rest := []) (lenOf pd_5 rfl) rfl (by show 2 * 0 + _ ≤ _; exact Nat.le_of_eq rfl) (hb hby at_154) (fun _ _ => ⟨rfl, rfl, (by decide : 3 + 0 ≤ _), (by decide : 35 + 0 ≤ _)⟩)
      dsimp only [Pt.U, Pt.locs, Pt.cells, Pt.slots] at X84 l84 y84 z84 st84 hQ84
      subst l84 y84 z84
      obtain ⟨rfl, N84q, K84, A84, Fe84, Fc84, hO84⟩ := hQ84
      have N84 := Fr.app N49 N84q
      have Zs85 : n0 ≤ T84.heap.size := Nat.le_trans Zs50 K84.1
      have pre88 : ∀ t, Steps p.tables e below (T84.setTop (mkF m 157 #[.val (.long qa), .second, .val (.long qb), .second, .val (.long qd), .second, .val (.int vc), .val (.int vk), .val (.long qq), .second, .val (.int nk), .val (.long q1), .second, .val (.long q2), .second, .val (.long q3), .second, .val (.long qe1), .second, .val (.long qe2), .second, .val (.long qr), .second, .val (.ref b30), .val (.long tt1), .second, .unset, .unset] [])) t → Steps p.tables e below (s₁.setTop (entryFrame m #[(.long qa), (.long qb), (.long qd), (.int vc), (.int vk), (.long qq)] maxLocals)) t := fun t kt => by
        refine pre56 _ ?_
        show Steps p.tables e below (T49.setTop (mkF m 145 #[.val (.long qa), .second, .val (.long qb), .second, .val (.long qd), .second, .val (.int vc), .val (.int vk), .val (.long qq), .second, .val (.int nk), .val (.long q1), .second, .val (.long q2), .second, .val (.long q3), .second, .val (.long qe1), .second, .val (.long qe2), .second, .val (.long qr), .second, .val (.ref b30), .val (.long tt1), .second, .unset, .unset] [(.int (2 : Int32)), (.int nk)])) _
        refine XS.icmpNo X49.here hx rfl (hb hby at_145) rfl (own_flt (a := nk) (b := (2 : Int32)) rfl (by decide) hc145_55).1 ?_
        show Steps p.tables e below (T49.setTop (mkF m 148 #[.val (.long qa), .second, .val (.long qb), .second, .val (.long qd), .second, .val (.int vc), .val (.int vk), .val (.long qq), .second, .val (.int nk), .val (.long q1), .second, .val (.long q2), .second, .val (.long q3), .second, .val (.long qe1), .second, .val (.long qe2), .second, .val (.long qr), .second, .val (.ref b30), .val (.long tt1), .second, .unset, .unset] [])) _
        refine XS.aload X49.here hx rfl (hb hby at_148) rfl rfl ?_
        refine XS.lload X49.here hx rfl (hb hby at_150) rfl ?_
        refine XS.lload X49.here hx rfl (hb hby at_152) rfl ?_
        refine st84.trans ?_
        exact kt
      rcases hO84 with ⟨y86_0, d86_0, F2_86, V0_86, V1_86, p86_0, t_86, hs_86⟩ | ⟨y87_0, y87_1, d87_0, d87_1, F2_87, V0_87, V1_87, o87_0, p87_0, p87_1, t_87, hs_87⟩
      · have own_mark86 := True.intro
        have pre89 : ∀ t, Steps p.tables e below (T84.setTop (mkF m 162 #[.val (.long qa), .second, .val (.long qb), .second, .val (.long qd), .second, .val (.int vc), .val (.int vk), .val (.long qq), .second, .val (.int nk), .val (.long q1), .second, .val (.long q2), .second, .val (.long q3), .second, .val (.long qe1), .second, .val (.long qe2), .second, .val (.long qr), .second, .val (.ref b30), .val (.long tt1), .second, .unset, .unset] [(.long (tt1 + q2))])) t → Steps p.tables e below (s₁.setTop (entryFrame m #[(.long qa), (.long qb), (.long qd), (.int vc), (.int vk), (.long qq)] maxLocals)) t := fun t kt => by
          refine pre88 _ ?_
          refine XS.lload X84.here hx rfl (hb hby at_157) rfl ?_
          show Steps p.tables e below (T84.setTop (mkF m 159 #[.val (.long qa), .second, .val (.long qb), .second, .val (.long qd), .second, .val (.int vc), .val (.int vk), .val (.long qq), .second, .val (.int nk), .val (.long q1), .second, .val (.long q2), .second, .val (.long q3), .second, .val (.long qe1), .second, .val (.long qe2), .second, .val (.long qr), .second, .val (.ref b30), .val (.long tt1), .second, .unset, .unset] [(.long tt1)])) _
          refine XS.lload X84.here hx rfl (hb hby at_159) rfl ?_
          refine XS.ladd X84.here hx rfl (hb hby at_161) rfl ?_
          exact kt
        obtain ⟨tt2, htt2⟩ : ∃ z : Int64, z = (tt1 + q2) := ⟨_, rfl⟩
        have itt2 : tt2.toInt = q1.toInt + q2.toInt := by rw [htt2]; have := rng64 tt1; have := rng64 q2; (first | (have : ((tt1 + q2)).toInt = tt1.toInt + q2.toInt := (by have : (((tt1 + q2)).toInt - (tt1.toInt + q2.toInt)) % 18446744073709551616 = 0 := c_ladd tt1 q2; have := rng64 (tt1 + q2); omega)) | (have : (((tt1 + q2)).toInt - (tt1.toInt + q2.toInt)) % 18446744073709551616 = 0 := c_ladd tt1 q2; have := rng64 (tt1 + q2))); omega
        have pre90 : ∀ t, Steps p.tables e below (T84.setTop (mkF m 162 #[.val (.long qa), .second, .val (.long qb), .second, .val (.long qd), .second, .val (.int vc), .val (.int vk), .val (.long qq), .second, .val (.int nk), .val (.long q1), .second, .val (.long q2), .second, .val (.long q3), .second, .val (.long qe1), .second, .val (.long qe2), .second, .val (.long qr), .second, .val (.ref b30), .val (.long tt1), .second, .unset, .unset] [(.long tt2)])) t → Steps p.tables e below (s₁.setTop (entryFrame m #[(.long qa), (.long qb), (.long qd), (.int vc), (.int vk), (.long qq)] maxLocals)) t := by rw [htt2]; exact pre89
        have pre92 : ∀ t, Steps p.tables e below (T84.setTop (mkF m 167 #[.val (.long qa), .second, .val (.long qb), .second, .val (.long qd), .second, .val (.int vc), .val (.int vk), .val (.long qq), .second, .val (.int nk), .val (.long q1), .second, .val (.long q2), .second, .val (.long q3), .second, .val (.long qe1), .second, .val (.long qe2), .second, .val (.long qr), .second, .val (.ref b30), .val (.long tt2), .second, .unset, .unset] [(.int (3 : Int32)), (.int nk)])) t → Steps p.tables e below (s₁.setTop (entryFrame m #[(.long qa), (.long qb), (.long qd), (.int vc), (.int vk), (.long qq)] maxLocals)) t := fun t kt => by
          refine pre90 _ ?_
          refine XS.lstore X84.here hx rfl (hb hby at_162) rfl (l' := #[.val (.long qa), .second, .val (.long qb), .second, .val (.long qd), .second, .val (.int vc), .val (.int vk), .val (.long qq), .second, .val (.int nk), .val (.long q1), .second, .val (.long q2), .second, .val (.long q3), .second, .val (.long qe1), .second, .val (.long qe2), .second, .val (.long qr), .second, .val (.ref b30), .val (.long tt2), .second, .unset, .unset]) rfl ?_
          refine XS.iload X84.here hx rfl (hb hby at_164) rfl ?_
          refine XS.iconst X84.here hx rfl (hb hby at_166) ?_
          exact kt
        by_cases hc167_91 : nk.toInt < (3 : Int)
        · obtain ⟨cq93, kq93, q93a, q93b, q93c⟩ := isOf hZ rfl A84
          obtain ⟨_, _, ⟨T93, L93, k93, n93⟩, -, X93, ⟨Lc93, hQ93, l93, y93, z93⟩, st93⟩ := X84.virtualBack hx (y := (⟨"com/example/foreslot/foreslot/CountsByEnd", "firstReaching", "(J)I"⟩ : MethodName)) (z := (⟨"com/example/foreslot/foreslot/CountsByEnd", "firstReaching", "(J)I"⟩ : MethodName)) hown (mvT hZ (hw _ (List.mem_of_getElem? (i := 35) rfl))) (mvT hZ (hw _ (List.mem_of_getElem? (i := 36) rfl))) (notFace_of_selects (args := #[]) (mvT hZ (hw _ (List.mem_of_getElem? (i := 38) rfl)))) (mvT hZ (hw _ (List.mem_of_getElem? (i := 38) rfl))) (mvT hZ (hw _ (List.mem_of_getElem? (i := 37) rfl))) (by decide) (backOf (W := 0) (rm_fr1 l Z a0 hw [] b30 qr ea ca kE kC y86_0 d86_0 T84.heap n0 Zs85 A84 Fe84 Fc84 F2_86 V0_86 V1_86 (by omega) (by omega)) hZ (hw _ (List.mem_of_getElem? (i := 39) rfl)) (hw _ (List.mem_of_getElem? (i := 2) rfl)) (by decide) (by decide)) q93a q93c (g := (mkF m 190 #[.val (.long qa), .second, .val (.long qb), .second, .val (.long qd), .second, .val (.int vc), .val (.int vk), .val (.long qq), .second, .val (.int nk), .val (.long q1), .second, .val (.long q2), .second, .val (.long q3), .second, .val (.long qe1), .second, .val (.long qe2), .second, .val (.long qr), .second, .val (.ref b30), .val (.long tt2), .second, .unset, .unset] [(.long qr), (.ref b30)])) rfl (by rw [hml]; rfl) (Steps.refl _) (argsL := [(.long qr)]) (rest := []) (lenOf pd_3 rfl) rfl (by show 2 * 0 + _ ≤ _; exact Nat.le_of_eq rfl) (hb hby at_190) (fun _ _ => ⟨rfl, rfl, (by decide : 3 + 0 ≤ _), (by decide : 35 + 0 ≤ _)⟩)
          dsimp only [Pt.U, Pt.locs, Pt.cells, Pt.slots] at X93 l93 y93 z93 st93 hQ93
          subst l93 y93 z93
          obtain ⟨zr, rfl, hzr, N93q, e93⟩ := hQ93
          have N93 := Fr.app N84 N93q
          have pre94 : ∀ t, Steps p.tables e below (T93.setTop (mkF m 193 #[.val (.long qa), .second, .val (.long qb), .second, .val (.long qd), .second, .val (.int vc), .val (.int vk), .val (.long qq), .second, .val (.int nk), .val (.long q1), .second, .val (.long q2), .second, .val (.long q3), .second, .val (.long qe1), .second, .val (.long qe2), .second, .val (.long qr), .second, .val (.ref b30), .val (.long tt2), .second, .unset, .unset] [(.int zr)])) t → Steps p.tables e below (s₁.setTop (entryFrame m #[(.long qa), (.long qb), (.long qd), (.int vc), (.int vk), (.long qq)] maxLocals)) t := fun t kt => by
            refine pre92 _ ?_
            show Steps p.tables e below (T84.setTop (mkF m 167 #[.val (.long qa), .second, .val (.long qb), .second, .val (.long qd), .second, .val (.int vc), .val (.int vk), .val (.long qq), .second, .val (.int nk), .val (.long q1), .second, .val (.long q2), .second, .val (.long q3), .second, .val (.long qe1), .second, .val (.long qe2), .second, .val (.long qr), .second, .val (.ref b30), .val (.long tt2), .second, .unset, .unset] [(.int (3 : Int32)), (.int nk)])) _
            refine XS.icmpYes X84.here hx rfl (pc0 := 167) (pc' := 186) rfl (hb hby at_167) rfl (own_tlt (a := nk) (b := (3 : Int32)) rfl (by decide) hc167_91).1 (by decide) (by decide) ?_
            refine XS.aload X84.here hx rfl (hb hby at_186) rfl rfl ?_
            refine XS.lload X84.here hx rfl (hb hby at_188) rfl ?_
            refine st93.trans ?_
            exact kt
          rcases hzr with ⟨rfl, hz0⟩ | ⟨rfl, hz0⟩
          · have pre95 : ∀ t, Steps p.tables e below (T93.setTop (mkF m 193 #[.val (.long qa), .second, .val (.long qb), .second, .val (.long qd), .second, .val (.int vc), .val (.int vk), .val (.long qq), .second, .val (.int nk), .val (.long q1), .second, .val (.long q2), .second, .val (.long q3), .second, .val (.long qe1), .second, .val (.long qe2), .second, .val (.long qr), .second, .val (.ref b30), .val (.long tt2), .second, .unset, .unset] [(.int (0 : Int32))])) t → Steps p.tables e below (s₁.setTop (entryFrame m #[(.long qa), (.long qb), (.long qd), (.int vc), (.int vk), (.long qq)] maxLocals)) t := pre94
            obtain ⟨cq96, kq96, q96a, q96b, q96c⟩ := isOf hZ e93 A84
            obtain ⟨_, _, ⟨T96, L96, k96, n96⟩, -, X96, ⟨Lc96, hQ96, l96, y96, z96⟩, st96⟩ := X93.virtualBack hx (y := (⟨"com/example/foreslot/foreslot/CountsByEnd", "size", "()I"⟩ : MethodName)) (z := (⟨"com/example/foreslot/foreslot/CountsByEnd", "size", "()I"⟩ : MethodName)) hown (mvT hZ (hw _ (List.mem_of_getElem? (i := 40) rfl))) (mvT hZ (hw _ (List.mem_of_getElem? (i := 41) rfl))) (notFace_of_selects (args := #[]) (mvT hZ (hw _ (List.mem_of_getElem? (i := 43) rfl)))) (mvT hZ (hw _ (List.mem_of_getElem? (i := 43) rfl))) (mvT hZ (hw _ (List.mem_of_getElem? (i := 42) rfl))) (by decide) (backOf (W := 0) (rm_sz1 l Z a0 hw [] b30 ea ca kE kC y86_0 d86_0 T84.heap n0 Zs85 A84 Fe84 Fc84 F2_86 V0_86 V1_86) hZ (hw _ (List.mem_of_getElem? (i := 44) rfl)) (hw _ (List.mem_of_getElem? (i := 2) rfl)) (by decide) (by decide)) q96a q96c (g := (mkF m 197 #[.val (.long qa), .second, .val (.long qb), .second, .val (.long qd), .second, .val (.int vc), .val (.int vk), .val (.long qq), .second, .val (.int nk), .val (.long q1), .second, .val (.long q2), .second, .val (.long q3), .second, .val (.long qe1), .second, .val (.long qe2), .second, .val (.long qr), .second, .val (.ref b30), .val (.long tt2), .second, .val (.int (0 : Int32)), .unset] [(.ref b30)])) rfl (by rw [hml]; rfl) (Steps.refl _) (argsL := []) (rest := []) (lenOf pd_4 rfl) rfl (by show 2 * 0 + _ ≤ _; exact Nat.le_of_eq rfl) (hb hby at_197) (fun _ _ => ⟨rfl, e93, (by decide : 3 + 0 ≤ _), (by decide : 35 + 0 ≤ _)⟩)
            dsimp only [Pt.U, Pt.locs, Pt.cells, Pt.slots] at X96 l96 y96 z96 st96 hQ96
            subst l96 y96 z96
            obtain ⟨zs, rfl, hzs, N96q, e96⟩ := hQ96
            have N96 := Fr.app N93 N96q
            have pre97 : ∀ t, Steps p.tables e below (T96.setTop (mkF m 200 #[.val (.long qa), .second, .val (.long qb), .second, .val (.long qd), .second, .val (.int vc), .val (.int vk), .val (.long qq), .second, .val (.int nk), .val (.long q1), .second, .val (.long q2), .second, .val (.long q3), .second, .val (.long qe1), .second, .val (.long qe2), .second, .val (.long qr), .second, .val (.ref b30), .val (.long tt2), .second, .val (.int (0 : Int32)), .unset] [(.int zs)])) t → Steps p.tables e below (s₁.setTop (entryFrame m #[(.long qa), (.long qb), (.long qd), (.int vc), (.int vk), (.long qq)] maxLocals)) t := fun t kt => by
              refine pre95 _ ?_
              show Steps p.tables e below (T93.setTop (mkF m 193 #[.val (.long qa), .second, .val (.long qb), .second, .val (.long qd), .second, .val (.int vc), .val (.int vk), .val (.long qq), .second, .val (.int nk), .val (.long q1), .second, .val (.long q2), .second, .val (.long q3), .second, .val (.long qe1), .second, .val (.long qe2), .second, .val (.long qr), .second, .val (.ref b30), .val (.long tt2), .second, .unset, .unset] [(.int (0 : Int32))])) _
              refine XS.istore X93.here hx rfl (hb hby at_193) rfl (l' := #[.val (.long qa), .second, .val (.long qb), .second, .val (.long qd), .second, .val (.int vc), .val (.int vk), .val (.long qq), .second, .val (.int nk), .val (.long q1), .second, .val (.long q2), .second, .val (.long q3), .second, .val (.long qe1), .second, .val (.long qe2), .second, .val (.long qr), .second, .val (.ref b30), .val (.long tt2), .second, .val (.int (0 : Int32)), .unset]) rfl ?_
              refine XS.aload X93.here hx rfl (hb hby at_195) rfl rfl ?_
              refine st96.trans ?_
              exact kt
            subst hzs
            have pre98 : ∀ t, Steps p.tables e below (T96.setTop (mkF m 200 #[.val (.long qa), .second, .val (.long qb), .second, .val (.long qd), .second, .val (.int vc), .val (.int vk), .val (.long qq), .second, .val (.int nk), .val (.long q1), .second, .val (.long q2), .second, .val (.long q3), .second, .val (.long qe1), .second, .val (.long qe2), .second, .val (.long qr), .second, .val (.ref b30), .val (.long tt2), .second, .val (.int (0 : Int32)), .unset] [(.int (1 : Int32))])) t → Steps p.tables e below (s₁.setTop (entryFrame m #[(.long qa), (.long qb), (.long qd), (.int vc), (.int vk), (.long qq)] maxLocals)) t := pre97
            have hc204_99 : ¬ ((0 : Int) < (0 : Int)) := by decide
            have hc211_100 : ¬ ((1 : Int) < (0 : Int)) := by decide
            have hc220_101 : (0 : Int) < (1 : Int) := by decide
            obtain ⟨cq102, kq102, q102a, q102b, q102c⟩ := isOf hZ e96 A84
            obtain ⟨_, _, ⟨T102, L102, k102, n102⟩, -, X102, ⟨Lc102, hQ102, l102, y102, z102⟩, st102⟩ := X96.virtualBack hx (y := (⟨"com/example/foreslot/foreslot/CountsByEnd", "end", "(I)J"⟩ : MethodName)) (z := (⟨"com/example/foreslot/foreslot/CountsByEnd", "end", "(I)J"⟩ : MethodName)) hown (mvT hZ (hw _ (List.mem_of_getElem? (i := 45) rfl))) (mvT hZ (hw _ (List.mem_of_getElem? (i := 46) rfl))) (notFace_of_selects (args := #[]) (mvT hZ (hw _ (List.mem_of_getElem? (i := 48) rfl)))) (mvT hZ (hw _ (List.mem_of_getElem? (i := 48) rfl))) (mvT hZ (hw _ (List.mem_of_getElem? (i := 47) rfl))) (by decide) (backOf (W := 1) (rm_e1_0 l Z a0 hw [] b30 ea ca kE kC y86_0 d86_0 T84.heap n0 Zs85 A84 Fe84 Fc84 F2_86 V0_86 V1_86) hZ (hw _ (List.mem_of_getElem? (i := 49) rfl)) (hw _ (List.mem_of_getElem? (i := 2) rfl)) (by decide) (by decide)) q102a q102c (g := (mkF m 229 #[.val (.long qa), .second, .val (.long qb), .second, .val (.long qd), .second, .val (.int vc), .val (.int vk), .val (.long qq), .second, .val (.int nk), .val (.long q1), .second, .val (.long q2), .second, .val (.long q3), .second, .val (.long qe1), .second, .val (.long qe2), .second, .val (.long qr), .second, .val (.ref b30), .val (.long tt2), .second, .val (.int (0 : Int32)), .val (.int (1 : Int32))] [(.int (0 : Int32)), (.ref b30), (.ref b30)])) rfl (by rw [hml]; rfl) (Steps.refl _) (argsL := [(.int (0 : Int32))]) (rest := [(.ref b30)]) (lenOf pd_6 rfl) rfl (by show 2 * 0 + _ ≤ _; exact Nat.le_of_eq rfl) (hb hby at_229) (fun _ _ => ⟨rfl, e96, (by decide : 3 + 0 ≤ _), (by decide : 35 + 0 ≤ _)⟩)
            dsimp only [Pt.U, Pt.locs, Pt.cells, Pt.slots] at X102 l102 y102 z102 st102 hQ102
            subst l102 y102 z102
            obtain ⟨ze, rfl, hze, N102q, e102⟩ := hQ102
            have N102 := Fr.app N96 N102q
            obtain ⟨cq103, kq103, q103a, q103b, q103c⟩ := isOf hZ e102 A84
            obtain ⟨_, _, ⟨T103, L103, k103, n103⟩, -, X103, ⟨Lc103, hQ103, l103, y103, z103⟩, st103⟩ := X102.virtualBack hx (y := (⟨"com/example/foreslot/foreslot/CountsByEnd", "heldUntilAtLatest", "(J)J"⟩ : MethodName)) (z := (⟨"com/example/foreslot/foreslot/CountsByEnd", "heldUntilAtLatest", "(J)J"⟩ : MethodName)) hown (mvT hZ (hw _ (List.mem_of_getElem? (i := 50) rfl))) (mvT hZ (hw _ (List.mem_of_getElem? (i := 51) rfl))) (notFace_of_selects (args := #[]) (mvT hZ (hw _ (List.mem_of_getElem? (i := 53) rfl)))) (mvT hZ (hw _ (List.mem_of_getElem? (i := 53) rfl))) (mvT hZ (hw _ (List.mem_of_getElem? (i := 52) rfl))) (by decide) (backOf (W := 0) (rm_h1 l Z a0 hw [] b30 ze ea ca kE kC y86_0 d86_0 T84.heap n0 Zs85 A84 Fe84 Fc84 F2_86 V0_86 V1_86 (by omega) (by omega)) hZ (hw _ (List.mem_of_getElem? (i := 54) rfl)) (hw _ (List.mem_of_getElem? (i := 2) rfl)) (by decide) (by decide)) q103a q103c (g := (mkF m 232 #[.val (.long qa), .second, .val (.long qb), .second, .val (.long qd), .second, .val (.int vc), .val (.int vk), .val (.long qq), .second, .val (.int nk), .val (.long q1), .second, .val (.long q2), .second, .val (.long q3), .second, .val (.long qe1), .second, .val (.long qe2), .second, .val (.long qr), .second, .val (.ref b30), .val (.long tt2), .second, .val (.int (0 : Int32)), .val (.int (1 : Int32))] [(.long ze), (.ref b30)])) rfl (by rw [hml]; rfl) (Steps.refl _) (argsL := [(.long ze)]) (rest := []) (lenOf pd_7 rfl) rfl (by show 2 * 0 + _ ≤ _; exact Nat.le_of_eq rfl) (hb hby at_232) (fun _ _ => ⟨rfl, e102, (by decide : 3 + 0 ≤ _), (by decide : 35 + 0 ≤ _)⟩)
            dsimp only [Pt.U, Pt.locs, Pt.cells, Pt.slots] at X103 l103 y103 z103 st103 hQ103
            subst l103 y103 z103
            obtain ⟨hd, rfl, hhd, N103q, e103⟩ := hQ103
            have N103 := Fr.app N102 N103q
            have hc238_104 : ¬ (hd.toInt < qr.toInt) := by rw [own_fp (x := y86_0.toInt) (by omega)] at hhd; omega
            have hc260_105 : ¬ ((0 : Int) < (0 : Int)) := by decide
            obtain ⟨fs, hr, hrun, hended, hW, hsame⟩ := X103.leave (v := some (.int (1 : Int32))) (fun h => by rw [Bd.returns] at h; cases h)
            refine ⟨_, _, pre98 _ ?_, hrun, hended, _, _, rfl, ?_, ⟨_, rfl⟩, hW, hsame.mono (by decide) (by decide)⟩
            · refine XS.istore X96.here hx rfl (hb hby at_200) rfl (l' := #[.val (.long qa), .second, .val (.long qb), .second, .val (.long qd), .second, .val (.int vc), .val (.int vk), .val (.long qq), .second, .val (.int nk), .val (.long q1), .second, .val (.long q2), .second, .val (.long q3), .second, .val (.long qe1), .second, .val (.long qe2), .second, .val (.long qr), .second, .val (.ref b30), .val (.long tt2), .second, .val (.int (0 : Int32)), .val (.int (1 : Int32))]) rfl ?_
              refine XS.iload X96.here hx rfl (hb hby at_202) rfl ?_
              show Steps p.tables e below (T96.setTop (mkF m 204 #[.val (.long qa), .second, .val (.long qb), .second, .val (.long qd), .second, .val (.int vc), .val (.int vk), .val (.long qq), .second, .val (.int nk), .val (.long q1), .second, .val (.long q2), .second, .val (.long q3), .second, .val (.long qe1), .second, .val (.long qe2), .second, .val (.long qr), .second, .val (.ref b30), .val (.long tt2), .second, .val (.int (0 : Int32)), .val (.int (1 : Int32))] [(.int (0 : Int32))])) _
              refine XS.ifNo X96.here hx rfl (hb hby at_204) rfl (own_if (own_flt (a := (0 : Int32)) (b := (0 : Int32)) (by decide) (by decide) hc204_99).1) ?_
              refine XS.iload X96.here hx rfl (hb hby at_207) rfl ?_
              refine XS.iload X96.here hx rfl (hb hby at_209) rfl ?_
              refine XS.icmpYes X96.here hx rfl (pc0 := 211) (pc' := 216) rfl (hb hby at_211) rfl (own_flt (a := (1 : Int32)) (b := (0 : Int32)) (by decide) (by decide) hc211_100).2.2.2 (by decide) (by decide) ?_
              refine XS.iload X96.here hx rfl (hb hby at_216) rfl ?_
              show Steps p.tables e below (T96.setTop (mkF m 218 #[.val (.long qa), .second, .val (.long qb), .second, .val (.long qd), .second, .val (.int vc), .val (.int vk), .val (.long qq), .second, .val (.int nk), .val (.long q1), .second, .val (.long q2), .second, .val (.long q3), .second, .val (.long qe1), .second, .val (.long qe2), .second, .val (.long qr), .second, .val (.ref b30), .val (.long tt2), .second, .val (.int (0 : Int32)), .val (.int (1 : Int32))] [(.int (0 : Int32))])) _
              refine XS.iload X96.here hx rfl (hb hby at_218) rfl ?_
              refine XS.icmpNo X96.here hx rfl (hb hby at_220) rfl (own_tlt (a := (0 : Int32)) (b := (1 : Int32)) (by decide) (by decide) hc220_101).2.1 ?_
              refine XS.aload X96.here hx rfl (hb hby at_223) rfl rfl ?_
              refine XS.aload X96.here hx rfl (hb hby at_225) rfl rfl ?_
              refine XS.iload X96.here hx rfl (hb hby at_227) rfl ?_
              show Steps p.tables e below (T96.setTop (mkF m 229 #[.val (.long qa), .second, .val (.long qb), .second, .val (.long qd), .second, .val (.int vc), .val (.int vk), .val (.long qq), .second, .val (.int nk), .val (.long q1), .second, .val (.long q2), .second, .val (.long q3), .second, .val (.long qe1), .second, .val (.long qe2), .second, .val (.long qr), .second, .val (.ref b30), .val (.long tt2), .second, .val (.int (0 : Int32)), .val (.int (1 : Int32))] [(.int (0 : Int32)), (.ref b30), (.ref b30)])) _
              refine st102.trans ?_
              refine st103.trans ?_
              refine XS.lload X103.here hx rfl (hb hby at_235) rfl ?_
              refine XS.lcmp X103.here hx rfl (hb hby at_237) rfl ?_
              refine XS.ifYes X103.here hx rfl (pc0 := 238) (pc' := 258) rfl (hb hby at_238) rfl (own_if (own_fltL (x := hd) (y := qr) rfl rfl hc238_104).2) (by decide) (by decide) ?_
              show Steps p.tables e below (T103.setTop (mkF m 258 #[.val (.long qa), .second, .val (.long qb), .second, .val (.long qd), .second, .val (.int vc), .val (.int vk), .val (.long qq), .second, .val (.int nk), .val (.long q1), .second, .val (.long q2), .second, .val (.long q3), .second, .val (.long qe1), .second, .val (.long qe2), .second, .val (.long qr), .second, .val (.ref b30), .val (.long tt2), .second, .val (.int (0 : Int32)), .val (.int (1 : Int32))] [])) _
              refine XS.iload X103.here hx rfl (hb hby at_258) rfl ?_
              refine XS.ifYes X103.here hx rfl (pc0 := 260) (pc' := 285) rfl (hb hby at_260) rfl (own_if (own_flt (a := (0 : Int32)) (b := (0 : Int32)) (by decide) (by decide) hc260_105).2.2.2) (by decide) (by decide) ?_
              refine XS.iconst X103.here hx rfl (hb hby at_285) ?_
              exact retN X103 hx (t := .boolean) Bd.returns (by simp) (hb hby at_286) hr
            · show Q0 Z qa qb qd vc vk qq h0 n0 _ T103.heap _
              rw [e103]
              exact ⟨rfl, N103⟩
          · have pre106 : ∀ t, Steps p.tables e below (T93.setTop (mkF m 193 #[.val (.long qa), .second, .val (.long qb), .second, .val (.long qd), .second, .val (.int vc), .val (.int vk), .val (.long qq), .second, .val (.int nk), .val (.long q1), .second, .val (.long q2), .second, .val (.long q3), .second, .val (.long qe1), .second, .val (.long qe2), .second, .val (.long qr), .second, .val (.ref b30), .val (.long tt2), .second, .unset, .unset] [(.int (1 : Int32))])) t → Steps p.tables e below (s₁.setTop (entryFrame m #[(.long qa), (.long qb), (.long qd), (.int vc), (.int vk), (.long qq)] maxLocals)) t := pre94
            obtain ⟨cq107, kq107, q107a, q107b, q107c⟩ := isOf hZ e93 A84
            obtain ⟨_, _, ⟨T107, L107, k107, n107⟩, -, X107, ⟨Lc107, hQ107, l107, y107, z107⟩, st107⟩ := X93.virtualBack hx (y := (⟨"com/example/foreslot/foreslot/CountsByEnd", "size", "()I"⟩ : MethodName)) (z := (⟨"com/example/foreslot/foreslot/CountsByEnd", "size", "()I"⟩ : MethodName)) hown (mvT hZ (hw _ (List.mem_of_getElem? (i := 40) rfl))) (mvT hZ (hw _ (List.mem_of_getElem? (i := 41) rfl))) (notFace_of_selects (args := #[]) (mvT hZ (hw _ (List.mem_of_getElem? (i := 43) rfl)))) (mvT hZ (hw _ (List.mem_of_getElem? (i := 43) rfl))) (mvT hZ (hw _ (List.mem_of_getElem? (i := 42) rfl))) (by decide) (backOf (W := 0) (rm_sz1 l Z a0 hw [] b30 ea ca kE kC y86_0 d86_0 T84.heap n0 Zs85 A84 Fe84 Fc84 F2_86 V0_86 V1_86) hZ (hw _ (List.mem_of_getElem? (i := 44) rfl)) (hw _ (List.mem_of_getElem? (i := 2) rfl)) (by decide) (by decide)) q107a q107c (g := (mkF m 197 #[.val (.long qa), .second, .val (.long qb), .second, .val (.long qd), .second, .val (.int vc), .val (.int vk), .val (.long qq), .second, .val (.int nk), .val (.long q1), .second, .val (.long q2), .second, .val (.long q3), .second, .val (.long qe1), .second, .val (.long qe2), .second, .val (.long qr), .second, .val (.ref b30), .val (.long tt2), .second, .val (.int (1 : Int32)), .unset] [(.ref b30)])) rfl (by rw [hml]; rfl) (Steps.refl _) (argsL := []) (rest := []) (lenOf pd_4 rfl) rfl (by show 2 * 0 + _ ≤ _; exact Nat.le_of_eq rfl) (hb hby at_197) (fun _ _ => ⟨rfl, e93, (by decide : 3 + 0 ≤ _), (by decide : 35 + 0 ≤ _)⟩)
            dsimp only [Pt.U, Pt.locs, Pt.cells, Pt.slots] at X107 l107 y107 z107 st107 hQ107
            subst l107 y107 z107
            obtain ⟨zs, rfl, hzs, N107q, e107⟩ := hQ107
            have N107 := Fr.app N93 N107q
            have pre108 : ∀ t, Steps p.tables e below (T107.setTop (mkF m 200 #[.val (.long qa), .second, .val (.long qb), .second, .val (.long qd), .second, .val (.int vc), .val (.int vk), .val (.long qq), .second, .val (.int nk), .val (.long q1), .second, .val (.long q2), .second, .val (.long q3), .second, .val (.long qe1), .second, .val (.long qe2), .second, .val (.long qr), .second, .val (.ref b30), .val (.long tt2), .second, .val (.int (1 : Int32)), .unset] [(.int zs)])) t → Steps p.tables e below (s₁.setTop (entryFrame m #[(.long qa), (.long qb), (.long qd), (.int vc), (.int vk), (.long qq)] maxLocals)) t := fun t kt => by
              refine pre106 _ ?_
              show Steps p.tables e below (T93.setTop (mkF m 193 #[.val (.long qa), .second, .val (.long qb), .second, .val (.long qd), .second, .val (.int vc), .val (.int vk), .val (.long qq), .second, .val (.int nk), .val (.long q1), .second, .val (.long q2), .second, .val (.long q3), .second, .val (.long qe1), .second, .val (.long qe2), .second, .val (.long qr), .second, .val (.ref b30), .val (.long tt2), .second, .unset, .unset] [(.int (1 : Int32))])) _
              refine XS.istore X93.here hx rfl (hb hby at_193) rfl (l' := #[.val (.long qa), .second, .val (.long qb), .second, .val (.long qd), .second, .val (.int vc), .val (.int vk), .val (.long qq), .second, .val (.int nk), .val (.long q1), .second, .val (.long q2), .second, .val (.long q3), .second, .val (.long qe1), .second, .val (.long qe2), .second, .val (.long qr), .second, .val (.ref b30), .val (.long tt2), .second, .val (.int (1 : Int32)), .unset]) rfl ?_
              refine XS.aload X93.here hx rfl (hb hby at_195) rfl rfl ?_
              refine st107.trans ?_
              exact kt
            subst hzs
            have pre109 : ∀ t, Steps p.tables e below (T107.setTop (mkF m 200 #[.val (.long qa), .second, .val (.long qb), .second, .val (.long qd), .second, .val (.int vc), .val (.int vk), .val (.long qq), .second, .val (.int nk), .val (.long q1), .second, .val (.long q2), .second, .val (.long q3), .second, .val (.long qe1), .second, .val (.long qe2), .second, .val (.long qr), .second, .val (.ref b30), .val (.long tt2), .second, .val (.int (1 : Int32)), .unset] [(.int (1 : Int32))])) t → Steps p.tables e below (s₁.setTop (entryFrame m #[(.long qa), (.long qb), (.long qd), (.int vc), (.int vk), (.long qq)] maxLocals)) t := pre108
            have hc204_110 : ¬ ((1 : Int) < (0 : Int)) := by decide
            have hc211_111 : ¬ ((1 : Int) < (1 : Int)) := by decide
            have hc220_112 : ¬ ((1 : Int) < (1 : Int)) := by decide
            have hc245_113 : (0 : Int) < (1 : Int) := by decide
            have hc253_114 : tt2.toInt < qr.toInt := by omega
            have hc260_115 : (0 : Int) < (1 : Int) := by decide
            obtain ⟨cq116, kq116, q116a, q116b, q116c⟩ := isOf hZ e107 A84
            obtain ⟨_, _, ⟨T116, L116, k116, n116⟩, -, X116, ⟨Lc116, hQ116, l116, y116, z116⟩, st116⟩ := X107.virtualBack hx (y := (⟨"com/example/foreslot/foreslot/CountsByEnd", "end", "(I)J"⟩ : MethodName)) (z := (⟨"com/example/foreslot/foreslot/CountsByEnd", "end", "(I)J"⟩ : MethodName)) hown (mvT hZ (hw _ (List.mem_of_getElem? (i := 45) rfl))) (mvT hZ (hw _ (List.mem_of_getElem? (i := 46) rfl))) (notFace_of_selects (args := #[]) (mvT hZ (hw _ (List.mem_of_getElem? (i := 48) rfl)))) (mvT hZ (hw _ (List.mem_of_getElem? (i := 48) rfl))) (mvT hZ (hw _ (List.mem_of_getElem? (i := 47) rfl))) (by decide) (backOf (W := 1) (rm_e1_0 l Z a0 hw [] b30 ea ca kE kC y86_0 d86_0 T84.heap n0 Zs85 A84 Fe84 Fc84 F2_86 V0_86 V1_86) hZ (hw _ (List.mem_of_getElem? (i := 49) rfl)) (hw _ (List.mem_of_getElem? (i := 2) rfl)) (by decide) (by decide)) q116a q116c (g := (mkF m 271 #[.val (.long qa), .second, .val (.long qb), .second, .val (.long qd), .second, .val (.int vc), .val (.int vk), .val (.long qq), .second, .val (.int nk), .val (.long q1), .second, .val (.long q2), .second, .val (.long q3), .second, .val (.long qe1), .second, .val (.long qe2), .second, .val (.long qr), .second, .val (.ref b30), .val (.long tt2), .second, .val (.int (1 : Int32)), .val (.int (1 : Int32))] [(.int (0 : Int32)), (.ref b30), (.ref b30)])) rfl (by rw [hml]; rfl) (Steps.refl _) (argsL := [(.int (0 : Int32))]) (rest := [(.ref b30)]) (lenOf pd_6 rfl) rfl (by show 2 * 0 + _ ≤ _; exact Nat.le_of_eq rfl) (hb hby at_271) (fun _ _ => ⟨rfl, e107, (by decide : 3 + 0 ≤ _), (by decide : 35 + 0 ≤ _)⟩)
            dsimp only [Pt.U, Pt.locs, Pt.cells, Pt.slots] at X116 l116 y116 z116 st116 hQ116
            subst l116 y116 z116
            obtain ⟨zf, rfl, hzf, N116q, e116⟩ := hQ116
            have N116 := Fr.app N107 N116q
            obtain ⟨cq117, kq117, q117a, q117b, q117c⟩ := isOf hZ e116 A84
            obtain ⟨_, _, ⟨T117, L117, k117, n117⟩, -, X117, ⟨Lc117, hQ117, l117, y117, z117⟩, st117⟩ := X116.virtualBack hx (y := (⟨"com/example/foreslot/foreslot/CountsByEnd", "heldUntilAtLatest", "(J)J"⟩ : MethodName)) (z := (⟨"com/example/foreslot/foreslot/CountsByEnd", "heldUntilAtLatest", "(J)J"⟩ : MethodName)) hown (mvT hZ (hw _ (List.mem_of_getElem? (i := 50) rfl))) (mvT hZ (hw _ (List.mem_of_getElem? (i := 51) rfl))) (notFace_of_selects (args := #[]) (mvT hZ (hw _ (List.mem_of_getElem? (i := 53) rfl)))) (mvT hZ (hw _ (List.mem_of_getElem? (i := 53) rfl))) (mvT hZ (hw _ (List.mem_of_getElem? (i := 52) rfl))) (by decide) (backOf (W := 0) (rm_h1 l Z a0 hw [] b30 zf ea ca kE kC y86_0 d86_0 T84.heap n0 Zs85 A84 Fe84 Fc84 F2_86 V0_86 V1_86 (by omega) (by omega)) hZ (hw _ (List.mem_of_getElem? (i := 54) rfl)) (hw _ (List.mem_of_getElem? (i := 2) rfl)) (by decide) (by decide)) q117a q117c (g := (mkF m 274 #[.val (.long qa), .second, .val (.long qb), .second, .val (.long qd), .second, .val (.int vc), .val (.int vk), .val (.long qq), .second, .val (.int nk), .val (.long q1), .second, .val (.long q2), .second, .val (.long q3), .second, .val (.long qe1), .second, .val (.long qe2), .second, .val (.long qr), .second, .val (.ref b30), .val (.long tt2), .second, .val (.int (1 : Int32)), .val (.int (1 : Int32))] [(.long zf), (.ref b30)])) rfl (by rw [hml]; rfl) (Steps.refl _) (argsL := [(.long zf)]) (rest := []) (lenOf pd_7 rfl) rfl (by show 2 * 0 + _ ≤ _; exact Nat.le_of_eq rfl) (hb hby at_274) (fun _ _ => ⟨rfl, e116, (by decide : 3 + 0 ≤ _), (by decide : 35 + 0 ≤ _)⟩)
            dsimp only [Pt.U, Pt.locs, Pt.cells, Pt.slots] at X117 l117 y117 z117 st117 hQ117
            subst l117 y117 z117
            obtain ⟨hf, rfl, hhf, N117q, e117⟩ := hQ117
            have N117 := Fr.app N116 N117q
            have hc280_118 : hf.toInt < qr.toInt := by rw [own_fp (x := y86_0.toInt) (by omega)] at hhf; omega
            obtain ⟨fs, hr, hrun, hended, hW, hsame⟩ := X117.leave (v := some (.int (1 : Int32))) (fun h => by rw [Bd.returns] at h; cases h)
            refine ⟨_, _, pre109 _ ?_, hrun, hended, _, _, rfl, ?_, ⟨_, rfl⟩, hW, hsame.mono (by decide) (by decide)⟩
            · refine XS.istore X107.here hx rfl (hb hby at_200) rfl (l' := #[.val (.long qa), .second, .val (.long qb), .second, .val (.long qd), .second, .val (.int vc), .val (.int vk), .val (.long qq), .second, .val (.int nk), .val (.long q1), .second, .val (.long q2), .second, .val (.long q3), .second, .val (.long qe1), .second, .val (.long qe2), .second, .val (.long qr), .second, .val (.ref b30), .val (.long tt2), .second, .val (.int (1 : Int32)), .val (.int (1 : Int32))]) rfl ?_
              refine XS.iload X107.here hx rfl (hb hby at_202) rfl ?_
              show Steps p.tables e below (T107.setTop (mkF m 204 #[.val (.long qa), .second, .val (.long qb), .second, .val (.long qd), .second, .val (.int vc), .val (.int vk), .val (.long qq), .second, .val (.int nk), .val (.long q1), .second, .val (.long q2), .second, .val (.long q3), .second, .val (.long qe1), .second, .val (.long qe2), .second, .val (.long qr), .second, .val (.ref b30), .val (.long tt2), .second, .val (.int (1 : Int32)), .val (.int (1 : Int32))] [(.int (1 : Int32))])) _
              refine XS.ifNo X107.here hx rfl (hb hby at_204) rfl (own_if (own_flt (a := (1 : Int32)) (b := (0 : Int32)) (by decide) (by decide) hc204_110).1) ?_
              refine XS.iload X107.here hx rfl (hb hby at_207) rfl ?_
              refine XS.iload X107.here hx rfl (hb hby at_209) rfl ?_
              refine XS.icmpYes X107.here hx rfl (pc0 := 211) (pc' := 216) rfl (hb hby at_211) rfl (own_flt (a := (1 : Int32)) (b := (1 : Int32)) (by decide) (by decide) hc211_111).2.2.2 (by decide) (by decide) ?_
              refine XS.iload X107.here hx rfl (hb hby at_216) rfl ?_
              show Steps p.tables e below (T107.setTop (mkF m 218 #[.val (.long qa), .second, .val (.long qb), .second, .val (.long qd), .second, .val (.int vc), .val (.int vk), .val (.long qq), .second, .val (.int nk), .val (.long q1), .second, .val (.long q2), .second, .val (.long q3), .second, .val (.long qe1), .second, .val (.long qe2), .second, .val (.long qr), .second, .val (.ref b30), .val (.long tt2), .second, .val (.int (1 : Int32)), .val (.int (1 : Int32))] [(.int (1 : Int32))])) _
              refine XS.iload X107.here hx rfl (hb hby at_218) rfl ?_
              refine XS.icmpYes X107.here hx rfl (pc0 := 220) (pc' := 243) rfl (hb hby at_220) rfl (own_flt (a := (1 : Int32)) (b := (1 : Int32)) (by decide) (by decide) hc220_112).2.1 (by decide) (by decide) ?_
              refine XS.iload X107.here hx rfl (hb hby at_243) rfl ?_
              refine XS.ifNo X107.here hx rfl (hb hby at_245) rfl (own_if (own_tlt (a := (0 : Int32)) (b := (1 : Int32)) (by decide) (by decide) hc245_113).2.2.2) ?_
              refine XS.lload X107.here hx rfl (hb hby at_248) rfl ?_
              show Steps p.tables e below (T107.setTop (mkF m 250 #[.val (.long qa), .second, .val (.long qb), .second, .val (.long qd), .second, .val (.int vc), .val (.int vk), .val (.long qq), .second, .val (.int nk), .val (.long q1), .second, .val (.long q2), .second, .val (.long q3), .second, .val (.long qe1), .second, .val (.long qe2), .second, .val (.long qr), .second, .val (.ref b30), .val (.long tt2), .second, .val (.int (1 : Int32)), .val (.int (1 : Int32))] [(.long tt2)])) _
              refine XS.lload X107.here hx rfl (hb hby at_250) rfl ?_
              refine XS.lcmp X107.here hx rfl (hb hby at_252) rfl ?_
              refine XS.ifYes X107.here hx rfl (pc0 := 253) (pc' := 258) rfl (hb hby at_253) rfl (own_if (own_tltL (x := tt2) (y := qr) rfl rfl hc253_114).1) (by decide) (by decide) ?_
              refine XS.iload X107.here hx rfl (hb hby at_258) rfl ?_
              refine XS.ifNo X107.here hx rfl (hb hby at_260) rfl (own_if (own_tlt (a := (0 : Int32)) (b := (1 : Int32)) (by decide) (by decide) hc260_115).2.2.2) ?_
              show Steps p.tables e below (T107.setTop (mkF m 263 #[.val (.long qa), .second, .val (.long qb), .second, .val (.long qd), .second, .val (.int vc), .val (.int vk), .val (.long qq), .second, .val (.int nk), .val (.long q1), .second, .val (.long q2), .second, .val (.long q3), .second, .val (.long qe1), .second, .val (.long qe2), .second, .val (.long qr), .second, .val (.ref b30), .val (.long tt2), .second, .val (.int (1 : Int32)), .val (.int (1 : Int32))] [])) _
              refine XS.aload X107.here hx rfl (hb hby at_263) rfl rfl ?_
              refine XS.aload X107.here hx rfl (hb hby at_265) rfl rfl ?_
              refine XS.iload X107.here hx rfl (hb hby at_267) rfl ?_
              refine XS.iconst X107.here hx rfl (hb hby at_269) ?_
              refine XS.isub X107.here hx rfl (hb hby at_270) rfl ?_
              show Steps p.tables e below (T107.setTop (mkF m 271 #[.val (.long qa), .second, .val (.long qb), .second, .val (.long qd), .second, .val (.int vc), .val (.int vk), .val (.long qq), .second, .val (.int nk), .val (.long q1), .second, .val (.long q2), .second, .val (.long q3), .second, .val (.long qe1), .second, .val (.long qe2), .second, .val (.long qr), .second, .val (.ref b30), .val (.long tt2), .second, .val (.int (1 : Int32)), .val (.int (1 : Int32))] [(.int (0 : Int32)), (.ref b30), (.ref b30)])) _
              refine st116.trans ?_
              refine st117.trans ?_
              refine XS.lload X117.here hx rfl (hb hby at_277) rfl ?_
              refine XS.lcmp X117.here hx rfl (hb hby at_279) rfl ?_
              refine XS.ifYes X117.here hx rfl (pc0 := 280) (pc' := 285) rfl (hb hby at_280) rfl (own_if (own_tltL (x := hf) (y := qr) rfl rfl hc280_118).1) (by decide) (by decide) ?_
              show Steps p.tables e below (T117.setTop (mkF m 285 #[.val (.long qa), .second, .val (.long qb), .second, .val (.long qd), .second, .val (.int vc), .val (.int vk), .val (.long qq), .second, .val (.int nk), .val (.long q1), .second, .val (.long q2), .second, .val (.long q3), .second, .val (.long qe1), .second, .val (.long qe2), .second, .val (.long qr), .second, .val (.ref b30), .val (.long tt2), .second, .val (.int (1 : Int32)), .val (.int (1 : Int32))] [])) _
              refine XS.iconst X117.here hx rfl (hb hby at_285) ?_
              exact retN X117 hx (t := .boolean) Bd.returns (by simp) (hb hby at_286) hr
            · show Q0 Z qa qb qd vc vk qq h0 n0 _ T117.heap _
              rw [e117]
              exact ⟨rfl, N117⟩
        · obtain ⟨cq119, kq119, q119a, q119b, q119c⟩ := isOf hZ rfl A84
          obtain ⟨_, _, ⟨T119, L119, k119, n119⟩, -, X119, ⟨Lc119, hQ119, l119, y119, z119⟩, st119⟩ := X84.virtualBack hx (y := (⟨"com/example/foreslot/foreslot/CountsByEnd", "add", "(JJ)V"⟩ : MethodName)) (z := (⟨"com/example/foreslot/foreslot/CountsByEnd", "add", "(JJ)V"⟩ : MethodName)) hown (mvT hZ (hw _ (List.mem_of_getElem? (i := 14) rfl))) (mvT hZ (hw _ (List.mem_of_getElem? (i := 15) rfl))) (notFace_of_selects (args := #[]) (mvT hZ (hw _ (List.mem_of_getElem? (i := 17) rfl)))) (mvT hZ (hw _ (List.mem_of_getElem? (i := 17) rfl))) (mvT hZ (hw _ (List.mem_of_getElem? (i := 16) rfl))) (by decide) (backOf (W := 0) (rm_add1 l Z a0 hw [] b30 qe2 q3 ea ca kE kC y86_0 d86_0 T84.heap n0 Zs85 A84 Fe84 Fc84 F2_86 V0_86 V1_86 g_b30 ge gc nae nac nec (by omega) (by omega) (by omega)) hZ (hw _ (List.mem_of_getElem? (i := 18) rfl)) (hw _ (List.mem_of_getElem? (i := 2) rfl)) (by decide) (by decide)) q119a q119c (g := (mkF m 176 #[.val (.long qa), .second, .val (.long qb), .second, .val (.long qd), .second, .val (.int vc), .val (.int vk), .val (.long qq), .second, .val (.int nk), .val (.long q1), .second, .val (.long q2), .second, .val (.long q3), .second, .val (.long qe1), .second, .val (.long qe2), .second, .val (.long qr), .second, .val (.ref b30), .val (.long tt2), .second, .unset, .unset] [(.long q3), (.long qe2), (.ref b30)])) rfl (by rw [hml]; rfl) (Steps.refl _) (argsL := [(.long qe2), (.long q3)]) (rest := []) (lenOf pd_5 rfl) rfl (by show 2 * 0 + _ ≤ _; exact Nat.le_of_eq rfl) (hb hby at_176) (fun _ _ => ⟨rfl, rfl, (by decide : 3 + 0 ≤ _), (by decide : 35 + 0 ≤ _)⟩)
          dsimp only [Pt.U, Pt.locs, Pt.cells, Pt.slots] at X119 l119 y119 z119 st119 hQ119
          subst l119 y119 z119
          obtain ⟨rfl, N119q, K119, A119, Fe119, Fc119, hO119⟩ := hQ119
          have N119 := Fr.app N84 N119q
          have Zs120 : n0 ≤ T119.heap.size := Nat.le_trans Zs85 K119.1
          have pre123 : ∀ t, Steps p.tables e below (T119.setTop (mkF m 179 #[.val (.long qa), .second, .val (.long qb), .second, .val (.long qd), .second, .val (.int vc), .val (.int vk), .val (.long qq), .second, .val (.int nk), .val (.long q1), .second, .val (.long q2), .second, .val (.long q3), .second, .val (.long qe1), .second, .val (.long qe2), .second, .val (.long qr), .second, .val (.ref b30), .val (.long tt2), .second, .unset, .unset] [])) t → Steps p.tables e below (s₁.setTop (entryFrame m #[(.long qa), (.long qb), (.long qd), (.int vc), (.int vk), (.long qq)] maxLocals)) t := fun t kt => by
            refine pre92 _ ?_
            show Steps p.tables e below (T84.setTop (mkF m 167 #[.val (.long qa), .second, .val (.long qb), .second, .val (.long qd), .second, .val (.int vc), .val (.int vk), .val (.long qq), .second, .val (.int nk), .val (.long q1), .second, .val (.long q2), .second, .val (.long q3), .second, .val (.long qe1), .second, .val (.long qe2), .second, .val (.long qr), .second, .val (.ref b30), .val (.long tt2), .second, .unset, .unset] [(.int (3 : Int32)), (.int nk)])) _
            refine XS.icmpNo X84.here hx rfl (hb hby at_167) rfl (own_flt (a := nk) (b := (3 : Int32)) rfl (by decide) hc167_91).1 ?_
            refine XS.aload X84.here hx rfl (hb hby at_170) rfl rfl ?_
            refine XS.lload X84.here hx rfl (hb hby at_172) rfl ?_
            refine XS.lload X84.here hx rfl (hb hby at_174) rfl ?_
            show Steps p.tables e below (T84.setTop (mkF m 176 #[.val (.long qa), .second, .val (.long qb), .second, .val (.long qd), .second, .val (.int vc), .val (.int vk), .val (.long qq), .second, .val (.int nk), .val (.long q1), .second, .val (.long q2), .second, .val (.long q3), .second, .val (.long qe1), .second, .val (.long qe2), .second, .val (.long qr), .second, .val (.ref b30), .val (.long tt2), .second, .unset, .unset] [(.long q3), (.long qe2), (.ref b30)])) _
            refine st119.trans ?_
            exact kt
          rcases hO119 with ⟨y121_0, d121_0, F2_121, V0_121, V1_121, p121_0, t_121, hs_121⟩ | ⟨y122_0, y122_1, d122_0, d122_1, F2_122, V0_122, V1_122, o122_0, p122_0, p122_1, t_122, hs_122⟩
          · have own_mark121 := True.intro
            have pre124 : ∀ t, Steps p.tables e below (T119.setTop (mkF m 184 #[.val (.long qa), .second, .val (.long qb), .second, .val (.long qd), .second, .val (.int vc), .val (.int vk), .val (.long qq), .second, .val (.int nk), .val (.long q1), .second, .val (.long q2), .second, .val (.long q3), .second, .val (.long qe1), .second, .val (.long qe2), .second, .val (.long qr), .second, .val (.ref b30), .val (.long tt2), .second, .unset, .unset] [(.long (tt2 + q3))])) t → Steps p.tables e below (s₁.setTop (entryFrame m #[(.long qa), (.long qb), (.long qd), (.int vc), (.int vk), (.long qq)] maxLocals)) t := fun t kt => by
              refine pre123 _ ?_
              refine XS.lload X119.here hx rfl (hb hby at_179) rfl ?_
              refine XS.lload X119.here hx rfl (hb hby at_181) rfl ?_
              refine XS.ladd X119.here hx rfl (hb hby at_183) rfl ?_
              exact kt
            obtain ⟨tt3, htt3⟩ : ∃ z : Int64, z = (tt2 + q3) := ⟨_, rfl⟩
            have itt3 : tt3.toInt = q1.toInt + q2.toInt + q3.toInt := by rw [htt3]; have := rng64 tt2; have := rng64 q3; (first | (have : ((tt2 + q3)).toInt = tt2.toInt + q3.toInt := (by have : (((tt2 + q3)).toInt - (tt2.toInt + q3.toInt)) % 18446744073709551616 = 0 := c_ladd tt2 q3; have := rng64 (tt2 + q3); omega)) | (have : (((tt2 + q3)).toInt - (tt2.toInt + q3.toInt)) % 18446744073709551616 = 0 := c_ladd tt2 q3; have := rng64 (tt2 + q3))); omega
            have pre125 : ∀ t, Steps p.tables e below (T119.setTop (mkF m 184 #[.val (.long qa), .second, .val (.long qb), .second, .val (.long qd), .second, .val (.int vc), .val (.int vk), .val (.long qq), .second, .val (.int nk), .val (.long q1), .second, .val (.long q2), .second, .val (.long q3), .second, .val (.long qe1), .second, .val (.long qe2), .second, .val (.long qr), .second, .val (.ref b30), .val (.long tt2), .second, .unset, .unset] [(.long tt3)])) t → Steps p.tables e below (s₁.setTop (entryFrame m #[(.long qa), (.long qb), (.long qd), (.int vc), (.int vk), (.long qq)] maxLocals)) t := by rw [htt3]; exact pre124
            obtain ⟨cq126, kq126, q126a, q126b, q126c⟩ := isOf hZ rfl A119
            obtain ⟨_, _, ⟨T126, L126, k126, n126⟩, -, X126, ⟨Lc126, hQ126, l126, y126, z126⟩, st126⟩ := X119.virtualBack hx (y := (⟨"com/example/foreslot/foreslot/CountsByEnd", "firstReaching", "(J)I"⟩ : MethodName)) (z := (⟨"com/example/foreslot/foreslot/CountsByEnd", "firstReaching", "(J)I"⟩ : MethodName)) hown (mvT hZ (hw _ (List.mem_of_getElem? (i := 35) rfl))) (mvT hZ (hw _ (List.mem_of_getElem? (i := 36) rfl))) (notFace_of_selects (args := #[]) (mvT hZ (hw _ (List.mem_of_getElem? (i := 38) rfl)))) (mvT hZ (hw _ (List.mem_of_getElem? (i := 38) rfl))) (mvT hZ (hw _ (List.mem_of_getElem? (i := 37) rfl))) (by decide) (backOf (W := 0) (rm_fr1 l Z a0 hw [] b30 qr ea ca kE kC y121_0 d121_0 T119.heap n0 Zs120 A119 Fe119 Fc119 F2_121 V0_121 V1_121 (by omega) (by omega)) hZ (hw _ (List.mem_of_getElem? (i := 39) rfl)) (hw _ (List.mem_of_getElem? (i := 2) rfl)) (by decide) (by decide)) q126a q126c (g := (mkF m 190 #[.val (.long qa), .second, .val (.long qb), .second, .val (.long qd), .second, .val (.int vc), .val (.int vk), .val (.long qq), .second, .val (.int nk), .val (.long q1), .second, .val (.long q2), .second, .val (.long q3), .second, .val (.long qe1), .second, .val (.long qe2), .second, .val (.long qr), .second, .val (.ref b30), .val (.long tt3), .second, .unset, .unset] [(.long qr), (.ref b30)])) rfl (by rw [hml]; rfl) (Steps.refl _) (argsL := [(.long qr)]) (rest := []) (lenOf pd_3 rfl) rfl (by show 2 * 0 + _ ≤ _; exact Nat.le_of_eq rfl) (hb hby at_190) (fun _ _ => ⟨rfl, rfl, (by decide : 3 + 0 ≤ _), (by decide : 35 + 0 ≤ _)⟩)
            dsimp only [Pt.U, Pt.locs, Pt.cells, Pt.slots] at X126 l126 y126 z126 st126 hQ126
            subst l126 y126 z126
            obtain ⟨zr, rfl, hzr, N126q, e126⟩ := hQ126
            have N126 := Fr.app N119 N126q
            have pre127 : ∀ t, Steps p.tables e below (T126.setTop (mkF m 193 #[.val (.long qa), .second, .val (.long qb), .second, .val (.long qd), .second, .val (.int vc), .val (.int vk), .val (.long qq), .second, .val (.int nk), .val (.long q1), .second, .val (.long q2), .second, .val (.long q3), .second, .val (.long qe1), .second, .val (.long qe2), .second, .val (.long qr), .second, .val (.ref b30), .val (.long tt3), .second, .unset, .unset] [(.int zr)])) t → Steps p.tables e below (s₁.setTop (entryFrame m #[(.long qa), (.long qb), (.long qd), (.int vc), (.int vk), (.long qq)] maxLocals)) t := fun t kt => by
              refine pre125 _ ?_
              refine XS.lstore X119.here hx rfl (hb hby at_184) rfl (l' := #[.val (.long qa), .second, .val (.long qb), .second, .val (.long qd), .second, .val (.int vc), .val (.int vk), .val (.long qq), .second, .val (.int nk), .val (.long q1), .second, .val (.long q2), .second, .val (.long q3), .second, .val (.long qe1), .second, .val (.long qe2), .second, .val (.long qr), .second, .val (.ref b30), .val (.long tt3), .second, .unset, .unset]) rfl ?_
              show Steps p.tables e below (T119.setTop (mkF m 186 #[.val (.long qa), .second, .val (.long qb), .second, .val (.long qd), .second, .val (.int vc), .val (.int vk), .val (.long qq), .second, .val (.int nk), .val (.long q1), .second, .val (.long q2), .second, .val (.long q3), .second, .val (.long qe1), .second, .val (.long qe2), .second, .val (.long qr), .second, .val (.ref b30), .val (.long tt3), .second, .unset, .unset] [])) _
              refine XS.aload X119.here hx rfl (hb hby at_186) rfl rfl ?_
              refine XS.lload X119.here hx rfl (hb hby at_188) rfl ?_
              refine st126.trans ?_
              exact kt
            rcases hzr with ⟨rfl, hz0⟩ | ⟨rfl, hz0⟩
            · have pre128 : ∀ t, Steps p.tables e below (T126.setTop (mkF m 193 #[.val (.long qa), .second, .val (.long qb), .second, .val (.long qd), .second, .val (.int vc), .val (.int vk), .val (.long qq), .second, .val (.int nk), .val (.long q1), .second, .val (.long q2), .second, .val (.long q3), .second, .val (.long qe1), .second, .val (.long qe2), .second, .val (.long qr), .second, .val (.ref b30), .val (.long tt3), .second, .unset, .unset] [(.int (0 : Int32))])) t → Steps p.tables e below (s₁.setTop (entryFrame m #[(.long qa), (.long qb), (.long qd), (.int vc), (.int vk), (.long qq)] maxLocals)) t := pre127
              obtain ⟨cq129, kq129, q129a, q129b, q129c⟩ := isOf hZ e126 A119
              obtain ⟨_, _, ⟨T129, L129, k129, n129⟩, -, X129, ⟨Lc129, hQ129, l129, y129, z129⟩, st129⟩ := X126.virtualBack hx (y := (⟨"com/example/foreslot/foreslot/CountsByEnd", "size", "()I"⟩ : MethodName)) (z := (⟨"com/example/foreslot/foreslot/CountsByEnd", "size", "()I"⟩ : MethodName)) hown (mvT hZ (hw _ (List.mem_of_getElem? (i := 40) rfl))) (mvT hZ (hw _ (List.mem_of_getElem? (i := 41) rfl))) (notFace_of_selects (args := #[]) (mvT hZ (hw _ (List.mem_of_getElem? (i := 43) rfl)))) (mvT hZ (hw _ (List.mem_of_getElem? (i := 43) rfl))) (mvT hZ (hw _ (List.mem_of_getElem? (i := 42) rfl))) (by decide) (backOf (W := 0) (rm_sz1 l Z a0 hw [] b30 ea ca kE kC y121_0 d121_0 T119.heap n0 Zs120 A119 Fe119 Fc119 F2_121 V0_121 V1_121) hZ (hw _ (List.mem_of_getElem? (i := 44) rfl)) (hw _ (List.mem_of_getElem? (i := 2) rfl)) (by decide) (by decide)) q129a q129c (g := (mkF m 197 #[.val (.long qa), .second, .val (.long qb), .second, .val (.long qd), .second, .val (.int vc), .val (.int vk), .val (.long qq), .second, .val (.int nk), .val (.long q1), .second, .val (.long q2), .second, .val (.long q3), .second, .val (.long qe1), .second, .val (.long qe2), .second, .val (.long qr), .second, .val (.ref b30), .val (.long tt3), .second, .val (.int (0 : Int32)), .unset] [(.ref b30)])) rfl (by rw [hml]; rfl) (Steps.refl _) (argsL := []) (rest := []) (lenOf pd_4 rfl) rfl (by show 2 * 0 + _ ≤ _; exact Nat.le_of_eq rfl) (hb hby at_197) (fun _ _ => ⟨rfl, e126, (by decide : 3 + 0 ≤ _), (by decide : 35 + 0 ≤ _)⟩)
              dsimp only [Pt.U, Pt.locs, Pt.cells, Pt.slots] at X129 l129 y129 z129 st129 hQ129
              subst l129 y129 z129
              obtain ⟨zs, rfl, hzs, N129q, e129⟩ := hQ129
              have N129 := Fr.app N126 N129q
              have pre130 : ∀ t, Steps p.tables e below (T129.setTop (mkF m 200 #[.val (.long qa), .second, .val (.long qb), .second, .val (.long qd), .second, .val (.int vc), .val (.int vk), .val (.long qq), .second, .val (.int nk), .val (.long q1), .second, .val (.long q2), .second, .val (.long q3), .second, .val (.long qe1), .second, .val (.long qe2), .second, .val (.long qr), .second, .val (.ref b30), .val (.long tt3), .second, .val (.int (0 : Int32)), .unset] [(.int zs)])) t → Steps p.tables e below (s₁.setTop (entryFrame m #[(.long qa), (.long qb), (.long qd), (.int vc), (.int vk), (.long qq)] maxLocals)) t := fun t kt => by
                refine pre128 _ ?_
                refine XS.istore X126.here hx rfl (hb hby at_193) rfl (l' := #[.val (.long qa), .second, .val (.long qb), .second, .val (.long qd), .second, .val (.int vc), .val (.int vk), .val (.long qq), .second, .val (.int nk), .val (.long q1), .second, .val (.long q2), .second, .val (.long q3), .second, .val (.long qe1), .second, .val (.long qe2), .second, .val (.long qr), .second, .val (.ref b30), .val (.long tt3), .second, .val (.int (0 : Int32)), .unset]) rfl ?_
                refine XS.aload X126.here hx rfl (hb hby at_195) rfl rfl ?_
                show Steps p.tables e below (T126.setTop (mkF m 197 #[.val (.long qa), .second, .val (.long qb), .second, .val (.long qd), .second, .val (.int vc), .val (.int vk), .val (.long qq), .second, .val (.int nk), .val (.long q1), .second, .val (.long q2), .second, .val (.long q3), .second, .val (.long qe1), .second, .val (.long qe2), .second, .val (.long qr), .second, .val (.ref b30), .val (.long tt3), .second, .val (.int (0 : Int32)), .unset] [(.ref b30)])) _
                refine st129.trans ?_
                exact kt
              subst hzs
              have pre131 : ∀ t, Steps p.tables e below (T129.setTop (mkF m 200 #[.val (.long qa), .second, .val (.long qb), .second, .val (.long qd), .second, .val (.int vc), .val (.int vk), .val (.long qq), .second, .val (.int nk), .val (.long q1), .second, .val (.long q2), .second, .val (.long q3), .second, .val (.long qe1), .second, .val (.long qe2), .second, .val (.long qr), .second, .val (.ref b30), .val (.long tt3), .second, .val (.int (0 : Int32)), .unset] [(.int (1 : Int32))])) t → Steps p.tables e below (s₁.setTop (entryFrame m #[(.long qa), (.long qb), (.long qd), (.int vc), (.int vk), (.long qq)] maxLocals)) t := pre130
              have hc204_132 : ¬ ((0 : Int) < (0 : Int)) := by decide
              have hc211_133 : ¬ ((1 : Int) < (0 : Int)) := by decide
              have hc220_134 : (0 : Int) < (1 : Int) := by decide
              obtain ⟨cq135, kq135, q135a, q135b, q135c⟩ := isOf hZ e129 A119
              obtain ⟨_, _, ⟨T135, L135, k135, n135⟩, -, X135, ⟨Lc135, hQ135, l135, y135, z135⟩, st135⟩ := X129.virtualBack hx (y := (⟨"com/example/foreslot/foreslot/CountsByEnd", "end", "(I)J"⟩ : MethodName)) (z := (⟨"com/example/foreslot/foreslot/CountsByEnd", "end", "(I)J"⟩ : MethodName)) hown (mvT hZ (hw _ (List.mem_of_getElem? (i := 45) rfl))) (mvT hZ (hw _ (List.mem_of_getElem? (i := 46) rfl))) (notFace_of_selects (args := #[]) (mvT hZ (hw _ (List.mem_of_getElem? (i := 48) rfl)))) (mvT hZ (hw _ (List.mem_of_getElem? (i := 48) rfl))) (mvT hZ (hw _ (List.mem_of_getElem? (i := 47) rfl))) (by decide) (backOf (W := 1) (rm_e1_0 l Z a0 hw [] b30 ea ca kE kC y121_0 d121_0 T119.heap n0 Zs120 A119 Fe119 Fc119 F2_121 V0_121 V1_121) hZ (hw _ (List.mem_of_getElem? (i := 49) rfl)) (hw _ (List.mem_of_getElem? (i := 2) rfl)) (by decide) (by decide)) q135a q135c (g := (mkF m 229 #[.val (.long qa), .second, .val (.long qb), .second, .val (.long qd), .second, .val (.int vc), .val (.int vk), .val (.long qq), .second, .val (.int nk), .val (.long q1), .second, .val (.long q2), .second, .val (.long q3), .second, .val (.long qe1), .second, .val (.long qe2), .second, .val (.long qr), .second, .val (.ref b30), .val (.long tt3), .second, .val (.int (0 : Int32)), .val (.int (1 : Int32))] [(.int (0 : Int32)), (.ref b30), (.ref b30)])) rfl (by rw [hml]; rfl) (Steps.refl _) (argsL := [(.int (0 : Int32))]) (rest := [(.ref b30)]) (lenOf pd_6 rfl) rfl (by show 2 * 0 + _ ≤ _; exact Nat.le_of_eq rfl) (hb hby at_229) (fun _ _ => ⟨rfl, e129, (by decide : 3 + 0 ≤ _), (by decide : 35 + 0 ≤ _)⟩)
              dsimp only [Pt.U, Pt.locs, Pt.cells, Pt.slots] at X135 l135 y135 z135 st135 hQ135
              subst l135 y135 z135
              obtain ⟨ze, rfl, hze, N135q, e135⟩ := hQ135
              have N135 := Fr.app N129 N135q
              obtain ⟨cq136, kq136, q136a, q136b, q136c⟩ := isOf hZ e135 A119
              obtain ⟨_, _, ⟨T136, L136, k136, n136⟩, -, X136, ⟨Lc136, hQ136, l136, y136, z136⟩, st136⟩ := X135.virtualBack hx (y := (⟨"com/example/foreslot/foreslot/CountsByEnd", "heldUntilAtLatest", "(J)J"⟩ : MethodName)) (z := (⟨"com/example/foreslot/foreslot/CountsByEnd", "heldUntilAtLatest", "(J)J"⟩ : MethodName)) hown (mvT hZ (hw _ (List.mem_of_getElem? (i := 50) rfl))) (mvT hZ (hw _ (List.mem_of_getElem? (i := 51) rfl))) (notFace_of_selects (args := #[]) (mvT hZ (hw _ (List.mem_of_getElem? (i := 53) rfl)))) (mvT hZ (hw _ (List.mem_of_getElem? (i := 53) rfl))) (mvT hZ (hw _ (List.mem_of_getElem? (i := 52) rfl))) (by decide) (backOf (W := 0) (rm_h1 l Z a0 hw [] b30 ze ea ca kE kC y121_0 d121_0 T119.heap n0 Zs120 A119 Fe119 Fc119 F2_121 V0_121 V1_121 (by omega) (by omega)) hZ (hw _ (List.mem_of_getElem? (i := 54) rfl)) (hw _ (List.mem_of_getElem? (i := 2) rfl)) (by decide) (by decide)) q136a q136c (g := (mkF m 232 #[.val (.long qa), .second, .val (.long qb), .second, .val (.long qd), .second, .val (.int vc), .val (.int vk), .val (.long qq), .second, .val (.int nk), .val (.long q1), .second, .val (.long q2), .second, .val (.long q3), .second, .val (.long qe1), .second, .val (.long qe2), .second, .val (.long qr), .second, .val (.ref b30), .val (.long tt3), .second, .val (.int (0 : Int32)), .val (.int (1 : Int32))] [(.long ze), (.ref b30)])) rfl (by rw [hml]; rfl) (Steps.refl _) (argsL := [(.long ze)]) (rest := []) (lenOf pd_7 rfl) rfl (by show 2 * 0 + _ ≤ _; exact Nat.le_of_eq rfl) (hb hby at_232) (fun _ _ => ⟨rfl, e135, (by decide : 3 + 0 ≤ _), (by decide : 35 + 0 ≤ _)⟩)
              dsimp only [Pt.U, Pt.locs, Pt.cells, Pt.slots] at X136 l136 y136 z136 st136 hQ136
              subst l136 y136 z136
              obtain ⟨hd, rfl, hhd, N136q, e136⟩ := hQ136
              have N136 := Fr.app N135 N136q
              have hc238_137 : ¬ (hd.toInt < qr.toInt) := by rw [own_fp (x := y121_0.toInt) (by omega)] at hhd; omega
              have hc260_138 : ¬ ((0 : Int) < (0 : Int)) := by decide
              obtain ⟨fs, hr, hrun, hended, hW, hsame⟩ := X136.leave (v := some (.int (1 : Int32))) (fun h => by rw [Bd.returns] at h; cases h)
              refine ⟨_, _, pre131 _ ?_, hrun, hended, _, _, rfl, ?_, ⟨_, rfl⟩, hW, hsame.mono (by decide) (by decide)⟩
              · refine XS.istore X129.here hx rfl (hb hby at_200) rfl (l' := #[.val (.long qa), .second, .val (.long qb), .second, .val (.long qd), .second, .val (.int vc), .val (.int vk), .val (.long qq), .second, .val (.int nk), .val (.long q1), .second, .val (.long q2), .second, .val (.long q3), .second, .val (.long qe1), .second, .val (.long qe2), .second, .val (.long qr), .second, .val (.ref b30), .val (.long tt3), .second, .val (.int (0 : Int32)), .val (.int (1 : Int32))]) rfl ?_
                refine XS.iload X129.here hx rfl (hb hby at_202) rfl ?_
                refine XS.ifNo X129.here hx rfl (hb hby at_204) rfl (own_if (own_flt (a := (0 : Int32)) (b := (0 : Int32)) (by decide) (by decide) hc204_132).1) ?_
                refine XS.iload X129.here hx rfl (hb hby at_207) rfl ?_
                show Steps p.tables e below (T129.setTop (mkF m 209 #[.val (.long qa), .second, .val (.long qb), .second, .val (.long qd), .second, .val (.int vc), .val (.int vk), .val (.long qq), .second, .val (.int nk), .val (.long q1), .second, .val (.long q2), .second, .val (.long q3), .second, .val (.long qe1), .second, .val (.long qe2), .second, .val (.long qr), .second, .val (.ref b30), .val (.long tt3), .second, .val (.int (0 : Int32)), .val (.int (1 : Int32))] [(.int (0 : Int32))])) _
                refine XS.iload X129.here hx rfl (hb hby at_209) rfl ?_
                refine XS.icmpYes X129.here hx rfl (pc0 := 211) (pc' := 216) rfl (hb hby at_211) rfl (own_flt (a := (1 : Int32)) (b := (0 : Int32)) (by decide) (by decide) hc211_133).2.2.2 (by decide) (by decide) ?_
                refine XS.iload X129.here hx rfl (hb hby at_216) rfl ?_
                refine XS.iload X129.here hx rfl (hb hby at_218) rfl ?_
                refine XS.icmpNo X129.here hx rfl (hb hby at_220) rfl (own_tlt (a := (0 : Int32)) (b := (1 : Int32)) (by decide) (by decide) hc220_134).2.1 ?_
                show Steps p.tables e below (T129.setTop (mkF m 223 #[.val (.long qa), .second, .val (.long qb), .second, .val (.long qd), .second, .val (.int vc), .val (.int vk), .val (.long qq), .second, .val (.int nk), .val (.long q1), .second, .val (.long q2), .second, .val (.long q3), .second, .val (.long qe1), .second, .val (.long qe2), .second, .val (.long qr), .second, .val (.ref b30), .val (.long tt3), .second, .val (.int (0 : Int32)), .val (.int (1 : Int32))] [])) _
                refine XS.aload X129.here hx rfl (hb hby at_223) rfl rfl ?_
                refine XS.aload X129.here hx rfl (hb hby at_225) rfl rfl ?_
                refine XS.iload X129.here hx rfl (hb hby at_227) rfl ?_
                refine st135.trans ?_
                refine st136.trans ?_
                show Steps p.tables e below (T136.setTop (mkF m 235 #[.val (.long qa), .second, .val (.long qb), .second, .val (.long qd), .second, .val (.int vc), .val (.int vk), .val (.long qq), .second, .val (.int nk), .val (.long q1), .second, .val (.long q2), .second, .val (.long q3), .second, .val (.long qe1), .second, .val (.long qe2), .second, .val (.long qr), .second, .val (.ref b30), .val (.long tt3), .second, .val (.int (0 : Int32)), .val (.int (1 : Int32))] [(.long hd)])) _
                refine XS.lload X136.here hx rfl (hb hby at_235) rfl ?_
                refine XS.lcmp X136.here hx rfl (hb hby at_237) rfl ?_
                refine XS.ifYes X136.here hx rfl (pc0 := 238) (pc' := 258) rfl (hb hby at_238) rfl (own_if (own_fltL (x := hd) (y := qr) rfl rfl hc238_137).2) (by decide) (by decide) ?_
                refine XS.iload X136.here hx rfl (hb hby at_258) rfl ?_
                refine XS.ifYes X136.here hx rfl (pc0 := 260) (pc' := 285) rfl (hb hby at_260) rfl (own_if (own_flt (a := (0 : Int32)) (b := (0 : Int32)) (by decide) (by decide) hc260_138).2.2.2) (by decide) (by decide) ?_
                show Steps p.tables e below (T136.setTop (mkF m 285 #[.val (.long qa), .second, .val (.long qb), .second, .val (.long qd), .second, .val (.int vc), .val (.int vk), .val (.long qq), .second, .val (.int nk), .val (.long q1), .second, .val (.long q2), .second, .val (.long q3), .second, .val (.long qe1), .second, .val (.long qe2), .second, .val (.long qr), .second, .val (.ref b30), .val (.long tt3), .second, .val (.int (0 : Int32)), .val (.int (1 : Int32))] [])) _
                refine XS.iconst X136.here hx rfl (hb hby at_285) ?_
                exact retN X136 hx (t := .boolean) Bd.returns (by simp) (hb hby at_286) hr
              · show Q0 Z qa qb qd vc vk qq h0 n0 _ T136.heap _
                rw [e136]
                exact ⟨rfl, N136⟩
            · have pre139 : ∀ t, Steps p.tables e below (T126.setTop (mkF m 193 #[.val (.long qa), .second, .val (.long qb), .second, .val (.long qd), .second, .val (.int vc), .val (.int vk), .val (.long qq), .second, .val (.int nk), .val (.long q1), .second, .val (.long q2), .second, .val (.long q3), .second, .val (.long qe1), .second, .val (.long qe2), .second, .val (.long qr), .second, .val (.ref b30), .val (.long tt3), .second, .unset, .unset] [(.int (1 : Int32))])) t → Steps p.tables e below (s₁.setTop (entryFrame m #[(.long qa), (.long qb), (.long qd), (.int vc), (.int vk), (.long qq)] maxLocals)) t := pre127
              obtain ⟨cq140, kq140, q140a, q140b, q140c⟩ := isOf hZ e126 A119
              obtain ⟨_, _, ⟨T140, L140, k140, n140⟩, -, X140, ⟨Lc140, hQ140, l140, y140, z140⟩, st140⟩ := X126.virtualBack hx (y := (⟨"com/example/foreslot/foreslot/CountsByEnd", "size", "()I"⟩ : MethodName)) (z := (⟨"com/example/foreslot/foreslot/CountsByEnd", "size", "()I"⟩ : MethodName)) hown (mvT hZ (hw _ (List.mem_of_getElem? (i := 40) rfl))) (mvT hZ (hw _ (List.mem_of_getElem? (i := 41) rfl))) (notFace_of_selects (args := #[]) (mvT hZ (hw _ (List.mem_of_getElem? (i := 43) rfl)))) (mvT hZ (hw _ (List.mem_of_getElem? (i := 43) rfl))) (mvT hZ (hw _ (List.mem_of_getElem? (i := 42) rfl))) (by decide) (backOf (W := 0) (rm_sz1 l Z a0 hw [] b30 ea ca kE kC y121_0 d121_0 T119.heap n0 Zs120 A119 Fe119 Fc119 F2_121 V0_121 V1_121) hZ (hw _ (List.mem_of_getElem? (i := 44) rfl)) (hw _ (List.mem_of_getElem? (i := 2) rfl)) (by decide) (by decide)) q140a q140c (g := (mkF m 197 #[.val (.long qa), .second, .val (.long qb), .second, .val (.long qd), .second, .val (.int vc), .val (.int vk), .val (.long qq), .second, .val (.int nk), .val (.long q1), .second, .val (.long q2), .second, .val (.long q3), .second, .val (.long qe1), .second, .val (.long qe2), .second, .val (.long qr), .second, .val (.ref b30), .val (.long tt3), .second, .val (.int (1 : Int32)), .unset] [(.ref b30)])) rfl (by rw [hml]; rfl) (Steps.refl _) (argsL := []) (rest := []) (lenOf pd_4 rfl) rfl (by show 2 * 0 + _ ≤ _; exact Nat.le_of_eq rfl) (hb hby at_197) (fun _ _ => ⟨rfl, e126, (by decide : 3 + 0 ≤ _), (by decide : 35 + 0 ≤ _)⟩)
              dsimp only [Pt.U, Pt.locs, Pt.cells, Pt.slots] at X140 l140 y140 z140 st140 hQ140
              subst l140 y140 z140
              obtain ⟨zs, rfl, hzs, N140q, e140⟩ := hQ140
              have N140 := Fr.app N126 N140q
              have pre141 : ∀ t, Steps p.tables e below (T140.setTop (mkF m 200 #[.val (.long qa), .second, .val (.long qb), .second, .val (.long qd), .second, .val (.int vc), .val (.int vk), .val (.long qq), .second, .val (.int nk), .val (.long q1), .second, .val (.long q2), .second, .val (.long q3), .second, .val (.long qe1), .second, .val (.long qe2), .second, .val (.long qr), .second, .val (.ref b30), .val (.long tt3), .second, .val (.int (1 : Int32)), .unset] [(.int zs)])) t → Steps p.tables e below (s₁.setTop (entryFrame m #[(.long qa), (.long qb), (.long qd), (.int vc), (.int vk), (.long qq)] maxLocals)) t := fun t kt => by
                refine pre139 _ ?_
                refine XS.istore X126.here hx rfl (hb hby at_193) rfl (l' := #[.val (.long qa), .second, .val (.long qb), .second, .val (.long qd), .second, .val (.int vc), .val (.int vk), .val (.long qq), .second, .val (.int nk), .val (.long q1), .second, .val (.long q2), .second, .val (.long q3), .second, .val (.long qe1), .second, .val (.long qe2), .second, .val (.long qr), .second, .val (.ref b30), .val (.long tt3), .second, .val (.int (1 : Int32)), .unset]) rfl ?_
                refine XS.aload X126.here hx rfl (hb hby at_195) rfl rfl ?_
                show Steps p.tables e below (T126.setTop (mkF m 197 #[.val (.long qa), .second, .val (.long qb), .second, .val (.long qd), .second, .val (.int vc), .val (.int vk), .val (.long qq), .second, .val (.int nk), .val (.long q1), .second, .val (.long q2), .second, .val (.long q3), .second, .val (.long qe1), .second, .val (.long qe2), .second, .val (.long qr), .second, .val (.ref b30), .val (.long tt3), .second, .val (.int (1 : Int32)), .unset] [(.ref b30)])) _
                refine st140.trans ?_
                exact kt
              subst hzs
              have pre142 : ∀ t, Steps p.tables e below (T140.setTop (mkF m 200 #[.val (.long qa), .second, .val (.long qb), .second, .val (.long qd), .second, .val (.int vc), .val (.int vk), .val (.long qq), .second, .val (.int nk), .val (.long q1), .second, .val (.long q2), .second, .val (.long q3), .second, .val (.long qe1), .second, .val (.long qe2), .second, .val (.long qr), .second, .val (.ref b30), .val (.long tt3), .second, .val (.int (1 : Int32)), .unset] [(.int (1 : Int32))])) t → Steps p.tables e below (s₁.setTop (entryFrame m #[(.long qa), (.long qb), (.long qd), (.int vc), (.int vk), (.long qq)] maxLocals)) t := pre141
              have hc204_143 : ¬ ((1 : Int) < (0 : Int)) := by decide
              have hc211_144 : ¬ ((1 : Int) < (1 : Int)) := by decide
              have hc220_145 : ¬ ((1 : Int) < (1 : Int)) := by decide
              have hc245_146 : (0 : Int) < (1 : Int) := by decide
              have hc253_147 : tt3.toInt < qr.toInt := by omega
              have hc260_148 : (0 : Int) < (1 : Int) := by decide
              obtain ⟨cq149, kq149, q149a, q149b, q149c⟩ := isOf hZ e140 A119
              obtain ⟨_, _, ⟨T149, L149, k149, n149⟩, -, X149, ⟨Lc149, hQ149, l149, y149, z149⟩, st149⟩ := X140.virtualBack hx (y := (⟨"com/example/foreslot/foreslot/CountsByEnd", "end", "(I)J"⟩ : MethodName)) (z := (⟨"com/example/foreslot/foreslot/CountsByEnd", "end", "(I)J"⟩ : MethodName)) hown (mvT hZ (hw _ (List.mem_of_getElem? (i := 45) rfl))) (mvT hZ (hw _ (List.mem_of_getElem? (i := 46) rfl))) (notFace_of_selects (args := #[]) (mvT hZ (hw _ (List.mem_of_getElem? (i := 48) rfl)))) (mvT hZ (hw _ (List.mem_of_getElem? (i := 48) rfl))) (mvT hZ (hw _ (List.mem_of_getElem? (i := 47) rfl))) (by decide) (backOf (W := 1) (rm_e1_0 l Z a0 hw [] b30 ea ca kE kC y121_0 d121_0 T119.heap n0 Zs120 A119 Fe119 Fc119 F2_121 V0_121 V1_121) hZ (hw _ (List.mem_of_getElem? (i := 49) rfl)) (hw _ (List.mem_of_getElem? (i := 2) rfl)) (by decide) (by decide)) q149a q149c (g := (mkF m 271 #[.val (.long qa), .second, .val (.long qb), .second, .val (.long qd), .second, .val (.int vc), .val (.int vk), .val (.long qq), .second, .val (.int nk), .val (.long q1), .second, .val (.long q2), .second, .val (.long q3), .second, .val (.long qe1), .second, .val (.long qe2), .second, .val (.long qr), .second, .val (.ref b30), .val (.long tt3), .second, .val (.int (1 : Int32)), .val (.int (1 : Int32))] [(.int (0 : Int32)), (.ref b30), (.ref b30)])) rfl (by rw [hml]; rfl) (Steps.refl _) (argsL := [(.int (0 : Int32))]) (rest := [(.ref b30)]) (lenOf pd_6 rfl) rfl (by show 2 * 0 + _ ≤ _; exact Nat.le_of_eq rfl) (hb hby at_271) (fun _ _ => ⟨rfl, e140, (by decide : 3 + 0 ≤ _), (by decide : 35 + 0 ≤ _)⟩)
              dsimp only [Pt.U, Pt.locs, Pt.cells, Pt.slots] at X149 l149 y149 z149 st149 hQ149
              subst l149 y149 z149
              obtain ⟨zf, rfl, hzf, N149q, e149⟩ := hQ149
              have N149 := Fr.app N140 N149q
              obtain ⟨cq150, kq150, q150a, q150b, q150c⟩ := isOf hZ e149 A119
              obtain ⟨_, _, ⟨T150, L150, k150, n150⟩, -, X150, ⟨Lc150, hQ150, l150, y150, z150⟩, st150⟩ := X149.virtualBack hx (y := (⟨"com/example/foreslot/foreslot/CountsByEnd", "heldUntilAtLatest", "(J)J"⟩ : MethodName)) (z := (⟨"com/example/foreslot/foreslot/CountsByEnd", "heldUntilAtLatest", "(J)J"⟩ : MethodName)) hown (mvT hZ (hw _ (List.mem_of_getElem? (i := 50) rfl))) (mvT hZ (hw _ (List.mem_of_getElem? (i := 51) rfl))) (notFace_of_selects (args := #[]) (mvT hZ (hw _ (List.mem_of_getElem? (i := 53) rfl)))) (mvT hZ (hw _ (List.mem_of_getElem? (i := 53) rfl))) (mvT hZ (hw _ (List.mem_of_getElem? (i := 52) rfl))) (by decide) (backOf (W := 0) (rm_h1 l Z a0 hw [] b30 zf ea ca kE kC y121_0 d121_0 T119.heap n0 Zs120 A119 Fe119 Fc119 F2_121 V0_121 V1_121 (by omega) (by omega)) hZ (hw _ (List.mem_of_getElem? (i := 54) rfl)) (hw _ (List.mem_of_getElem? (i := 2) rfl)) (by decide) (by decide)) q150a q150c (g := (mkF m 274 #[.val (.long qa), .second, .val (.long qb), .second, .val (.long qd), .second, .val (.int vc), .val (.int vk), .val (.long qq), .second, .val (.int nk), .val (.long q1), .second, .val (.long q2), .second, .val (.long q3), .second, .val (.long qe1), .second, .val (.long qe2), .second, .val (.long qr), .second, .val (.ref b30), .val (.long tt3), .second, .val (.int (1 : Int32)), .val (.int (1 : Int32))] [(.long zf), (.ref b30)])) rfl (by rw [hml]; rfl) (Steps.refl _) (argsL := [(.long zf)]) (rest := []) (lenOf pd_7 rfl) rfl (by show 2 * 0 + _ ≤ _; exact Nat.le_of_eq rfl) (hb hby at_274) (fun _ _ => ⟨rfl, e149, (by decide : 3 + 0 ≤ _), (by decide : 35 + 0 ≤ _)⟩)
              dsimp only [Pt.U, Pt.locs, Pt.cells, Pt.slots] at X150 l150 y150 z150 st150 hQ150
              subst l150 y150 z150
              obtain ⟨hf, rfl, hhf, N150q, e150⟩ := hQ150
              have N150 := Fr.app N149 N150q
              have hc280_151 : hf.toInt < qr.toInt := by rw [own_fp (x := y121_0.toInt) (by omega)] at hhf; omega
              obtain ⟨fs, hr, hrun, hended, hW, hsame⟩ := X150.leave (v := some (.int (1 : Int32))) (fun h => by rw [Bd.returns] at h; cases h)
              refine ⟨_, _, pre142 _ ?_, hrun, hended, _, _, rfl, ?_, ⟨_, rfl⟩, hW, hsame.mono (by decide) (by decide)⟩
              · refine XS.istore X140.here hx rfl (hb hby at_200) rfl (l' := #[.val (.long qa), .second, .val (.long qb), .second, .val (.long qd), .second, .val (.int vc), .val (.int vk), .val (.long qq), .second, .val (.int nk), .val (.long q1), .second, .val (.long q2), .second, .val (.long q3), .second, .val (.long qe1), .second, .val (.long qe2), .second, .val (.long qr), .second, .val (.ref b30), .val (.long tt3), .second, .val (.int (1 : Int32)), .val (.int (1 : Int32))]) rfl ?_
                refine XS.iload X140.here hx rfl (hb hby at_202) rfl ?_
                refine XS.ifNo X140.here hx rfl (hb hby at_204) rfl (own_if (own_flt (a := (1 : Int32)) (b := (0 : Int32)) (by decide) (by decide) hc204_143).1) ?_
                refine XS.iload X140.here hx rfl (hb hby at_207) rfl ?_
                show Steps p.tables e below (T140.setTop (mkF m 209 #[.val (.long qa), .second, .val (.long qb), .second, .val (.long qd), .second, .val (.int vc), .val (.int vk), .val (.long qq), .second, .val (.int nk), .val (.long q1), .second, .val (.long q2), .second, .val (.long q3), .second, .val (.long qe1), .second, .val (.long qe2), .second, .val (.long qr), .second, .val (.ref b30), .val (.long tt3), .second, .val (.int (1 : Int32)), .val (.int (1 : Int32))] [(.int (1 : Int32))])) _
                refine XS.iload X140.here hx rfl (hb hby at_209) rfl ?_
                refine XS.icmpYes X140.here hx rfl (pc0 := 211) (pc' := 216) rfl (hb hby at_211) rfl (own_flt (a := (1 : Int32)) (b := (1 : Int32)) (by decide) (by decide) hc211_144).2.2.2 (by decide) (by decide) ?_
                refine XS.iload X140.here hx rfl (hb hby at_216) rfl ?_
                refine XS.iload X140.here hx rfl (hb hby at_218) rfl ?_
                refine XS.icmpYes X140.here hx rfl (pc0 := 220) (pc' := 243) rfl (hb hby at_220) rfl (own_flt (a := (1 : Int32)) (b := (1 : Int32)) (by decide) (by decide) hc220_145).2.1 (by decide) (by decide) ?_
                show Steps p.tables e below (T140.setTop (mkF m 243 #[.val (.long qa), .second, .val (.long qb), .second, .val (.long qd), .second, .val (.int vc), .val (.int vk), .val (.long qq), .second, .val (.int nk), .val (.long q1), .second, .val (.long q2), .second, .val (.long q3), .second, .val (.long qe1), .second, .val (.long qe2), .second, .val (.long qr), .second, .val (.ref b30), .val (.long tt3), .second, .val (.int (1 : Int32)), .val (.int (1 : Int32))] [])) _
                refine XS.iload X140.here hx rfl (hb hby at_243) rfl ?_
                refine XS.ifNo X140.here hx rfl (hb hby at_245) rfl (own_if (own_tlt (a := (0 : Int32)) (b := (1 : Int32)) (by decide) (by decide) hc245_146).2.2.2) ?_
                refine XS.lload X140.here hx rfl (hb hby at_248) rfl ?_
                refine XS.lload X140.here hx rfl (hb hby at_250) rfl ?_
                refine XS.lcmp X140.here hx rfl (hb hby at_252) rfl ?_
                show Steps p.tables e below (T140.setTop (mkF m 253 #[.val (.long qa), .second, .val (.long qb), .second, .val (.long qd), .second, .val (.int vc), .val (.int vk), .val (.long qq), .second, .val (.int nk), .val (.long q1), .second, .val (.long q2), .second, .val (.long q3), .second, .val (.long qe1), .second, .val (.long qe2), .second, .val (.long qr), .second, .val (.ref b30), .val (.long tt3), .second, .val (.int (1 : Int32)), .val (.int (1 : Int32))] [(.int (lcmpW tt3 qr))])) _
                refine XS.ifYes X140.here hx rfl (pc0 := 253) (pc' := 258) rfl (hb hby at_253) rfl (own_if (own_tltL (x := tt3) (y := qr) rfl rfl hc253_147).1) (by decide) (by decide) ?_
                refine XS.iload X140.here hx rfl (hb hby at_258) rfl ?_
                refine XS.ifNo X140.here hx rfl (hb hby at_260) rfl (own_if (own_tlt (a := (0 : Int32)) (b := (1 : Int32)) (by decide) (by decide) hc260_148).2.2.2) ?_
                refine XS.aload X140.here hx rfl (hb hby at_263) rfl rfl ?_
                refine XS.aload X140.here hx rfl (hb hby at_265) rfl rfl ?_
                show Steps p.tables e below (T140.setTop (mkF m 267 #[.val (.long qa), .second, .val (.long qb), .second, .val (.long qd), .second, .val (.int vc), .val (.int vk), .val (.long qq), .second, .val (.int nk), .val (.long q1), .second, .val (.long q2), .second, .val (.long q3), .second, .val (.long qe1), .second, .val (.long qe2), .second, .val (.long qr), .second, .val (.ref b30), .val (.long tt3), .second, .val (.int (1 : Int32)), .val (.int (1 : Int32))] [(.ref b30), (.ref b30)])) _
                refine XS.iload X140.here hx rfl (hb hby at_267) rfl ?_
                refine XS.iconst X140.here hx rfl (hb hby at_269) ?_
                refine XS.isub X140.here hx rfl (hb hby at_270) rfl ?_
                refine st149.trans ?_
                refine st150.trans ?_
                show Steps p.tables e below (T150.setTop (mkF m 277 #[.val (.long qa), .second, .val (.long qb), .second, .val (.long qd), .second, .val (.int vc), .val (.int vk), .val (.long qq), .second, .val (.int nk), .val (.long q1), .second, .val (.long q2), .second, .val (.long q3), .second, .val (.long qe1), .second, .val (.long qe2), .second, .val (.long qr), .second, .val (.ref b30), .val (.long tt3), .second, .val (.int (1 : Int32)), .val (.int (1 : Int32))] [(.long hf)])) _
                refine XS.lload X150.here hx rfl (hb hby at_277) rfl ?_
                refine XS.lcmp X150.here hx rfl (hb hby at_279) rfl ?_
                refine XS.ifYes X150.here hx rfl (pc0 := 280) (pc' := 285) rfl (hb hby at_280) rfl (own_if (own_tltL (x := hf) (y := qr) rfl rfl hc280_151).1) (by decide) (by decide) ?_
                refine XS.iconst X150.here hx rfl (hb hby at_285) ?_
                exact retN X150 hx (t := .boolean) Bd.returns (by simp) (hb hby at_286) hr
              · show Q0 Z qa qb qd vc vk qq h0 n0 _ T150.heap _
                rw [e150]
                exact ⟨rfl, N150⟩
          · have own_mark122 := True.intro
            have pre152 : ∀ t, Steps p.tables e below (T119.setTop (mkF m 184 #[.val (.long qa), .second, .val (.long qb), .second, .val (.long qd), .second, .val (.int vc), .val (.int vk), .val (.long qq), .second, .val (.int nk), .val (.long q1), .second, .val (.long q2), .second, .val (.long q3), .second, .val (.long qe1), .second, .val (.long qe2), .second, .val (.long qr), .second, .val (.ref b30), .val (.long tt2), .second, .unset, .unset] [(.long (tt2 + q3))])) t → Steps p.tables e below (s₁.setTop (entryFrame m #[(.long qa), (.long qb), (.long qd), (.int vc), (.int vk), (.long qq)] maxLocals)) t := fun t kt => by
              refine pre123 _ ?_
              refine XS.lload X119.here hx rfl (hb hby at_179) rfl ?_
              refine XS.lload X119.here hx rfl (hb hby at_181) rfl ?_
              refine XS.ladd X119.here hx rfl (hb hby at_183) rfl ?_
              exact kt
            obtain ⟨tt3, htt3⟩ : ∃ z : Int64, z = (tt2 + q3) := ⟨_, rfl⟩
            have itt3 : tt3.toInt = q1.toInt + q2.toInt + q3.toInt := by rw [htt3]; have := rng64 tt2; have := rng64 q3; (first | (have : ((tt2 + q3)).toInt = tt2.toInt + q3.toInt := (by have : (((tt2 + q3)).toInt - (tt2.toInt + q3.toInt)) % 18446744073709551616 = 0 := c_ladd tt2 q3; have := rng64 (tt2 + q3); omega)) | (have : (((tt2 + q3)).toInt - (tt2.toInt + q3.toInt)) % 18446744073709551616 = 0 := c_ladd tt2 q3; have := rng64 (tt2 + q3))); omega
            have pre153 : ∀ t, Steps p.tables e below (T119.setTop (mkF m 184 #[.val (.long qa), .second, .val (.long qb), .second, .val (.long qd), .second, .val (.int vc), .val (.int vk), .val (.long qq), .second, .val (.int nk), .val (.long q1), .second, .val (.long q2), .second, .val (.long q3), .second, .val (.long qe1), .second, .val (.long qe2), .second, .val (.long qr), .second, .val (.ref b30), .val (.long tt2), .second, .unset, .unset] [(.long tt3)])) t → Steps p.tables e below (s₁.setTop (entryFrame m #[(.long qa), (.long qb), (.long qd), (.int vc), (.int vk), (.long qq)] maxLocals)) t := by rw [htt3]; exact pre152
            obtain ⟨cq154, kq154, q154a, q154b, q154c⟩ := isOf hZ rfl A119
            obtain ⟨_, _, ⟨T154, L154, k154, n154⟩, -, X154, ⟨Lc154, hQ154, l154, y154, z154⟩, st154⟩ := X119.virtualBack hx (y := (⟨"com/example/foreslot/foreslot/CountsByEnd", "firstReaching", "(J)I"⟩ : MethodName)) (z := (⟨"com/example/foreslot/foreslot/CountsByEnd", "firstReaching", "(J)I"⟩ : MethodName)) hown (mvT hZ (hw _ (List.mem_of_getElem? (i := 35) rfl))) (mvT hZ (hw _ (List.mem_of_getElem? (i := 36) rfl))) (notFace_of_selects (args := #[]) (mvT hZ (hw _ (List.mem_of_getElem? (i := 38) rfl)))) (mvT hZ (hw _ (List.mem_of_getElem? (i := 38) rfl))) (mvT hZ (hw _ (List.mem_of_getElem? (i := 37) rfl))) (by decide) (backOf (W := 0) (rm_fr2 l Z a0 hw [] b30 qr ea ca kE kC y122_0 y122_1 d122_0 d122_1 T119.heap n0 Zs120 A119 Fe119 Fc119 F2_122 V0_122 V1_122 (by omega) (by omega) (by omega)) hZ (hw _ (List.mem_of_getElem? (i := 39) rfl)) (hw _ (List.mem_of_getElem? (i := 2) rfl)) (by decide) (by decide)) q154a q154c (g := (mkF m 190 #[.val (.long qa), .second, .val (.long qb), .second, .val (.long qd), .second, .val (.int vc), .val (.int vk), .val (.long qq), .second, .val (.int nk), .val (.long q1), .second, .val (.long q2), .second, .val (.long q3), .second, .val (.long qe1), .second, .val (.long qe2), .second, .val (.long qr), .second, .val (.ref b30), .val (.long tt3), .second, .unset, .unset] [(.long qr), (.ref b30)])) rfl (by rw [hml]; rfl) (Steps.refl _) (argsL := [(.long qr)]) (rest := []) (lenOf pd_3 rfl) rfl (by show 2 * 0 + _ ≤ _; exact Nat.le_of_eq rfl) (hb hby at_190) (fun _ _ => ⟨rfl, rfl, (by decide : 3 + 0 ≤ _), (by decide : 35 + 0 ≤ _)⟩)
            dsimp only [Pt.U, Pt.locs, Pt.cells, Pt.slots] at X154 l154 y154 z154 st154 hQ154
            subst l154 y154 z154
            obtain ⟨zr, rfl, hzr, N154q, e154⟩ := hQ154
            have N154 := Fr.app N119 N154q
            have pre155 : ∀ t, Steps p.tables e below (T154.setTop (mkF m 193 #[.val (.long qa), .second, .val (.long qb), .second, .val (.long qd), .second, .val (.int vc), .val (.int vk), .val (.long qq), .second, .val (.int nk), .val (.long q1), .second, .val (.long q2), .second, .val (.long q3), .second, .val (.long qe1), .second, .val (.long qe2), .second, .val (.long qr), .second, .val (.ref b30), .val (.long tt3), .second, .unset, .unset] [(.int zr)])) t → Steps p.tables e below (s₁.setTop (entryFrame m #[(.long qa), (.long qb), (.long qd), (.int vc), (.int vk), (.long qq)] maxLocals)) t := fun t kt => by
              refine pre153 _ ?_
              refine XS.lstore X119.here hx rfl (hb hby at_184) rfl (l' := #[.val (.long qa), .second, .val (.long qb), .second, .val (.long qd), .second, .val (.int vc), .val (.int vk), .val (.long qq), .second, .val (.int nk), .val (.long q1), .second, .val (.long q2), .second, .val (.long q3), .second, .val (.long qe1), .second, .val (.long qe2), .second, .val (.long qr), .second, .val (.ref b30), .val (.long tt3), .second, .unset, .unset]) rfl ?_
              show Steps p.tables e below (T119.setTop (mkF m 186 #[.val (.long qa), .second, .val (.long qb), .second, .val (.long qd), .second, .val (.int vc), .val (.int vk), .val (.long qq), .second, .val (.int nk), .val (.long q1), .second, .val (.long q2), .second, .val (.long q3), .second, .val (.long qe1), .second, .val (.long qe2), .second, .val (.long qr), .second, .val (.ref b30), .val (.long tt3), .second, .unset, .unset] [])) _
              refine XS.aload X119.here hx rfl (hb hby at_186) rfl rfl ?_
              refine XS.lload X119.here hx rfl (hb hby at_188) rfl ?_
              refine st154.trans ?_
              exact kt
            rcases hzr with ⟨rfl, hz0⟩ | ⟨rfl, hz0, hz1⟩ | ⟨rfl, hz0⟩
            · have pre156 : ∀ t, Steps p.tables e below (T154.setTop (mkF m 193 #[.val (.long qa), .second, .val (.long qb), .second, .val (.long qd), .second, .val (.int vc), .val (.int vk), .val (.long qq), .second, .val (.int nk), .val (.long q1), .second, .val (.long q2), .second, .val (.long q3), .second, .val (.long qe1), .second, .val (.long qe2), .second, .val (.long qr), .second, .val (.ref b30), .val (.long tt3), .second, .unset, .unset] [(.int (0 : Int32))])) t → Steps p.tables e below (s₁.setTop (entryFrame m #[(.long qa), (.long qb), (.long qd), (.int vc), (.int vk), (.long qq)] maxLocals)) t := pre155
              obtain ⟨cq157, kq157, q157a, q157b, q157c⟩ := isOf hZ e154 A119
              obtain ⟨_, _, ⟨T157, L157, k157, n157⟩, -, X157, ⟨Lc157, hQ157, l157, y157, z157⟩, st157⟩ := X154.virtualBack hx (y := (⟨"com/example/foreslot/foreslot/CountsByEnd", "size", "()I"⟩ : MethodName)) (z := (⟨"com/example/foreslot/foreslot/CountsByEnd", "size", "()I"⟩ : MethodName)) hown (mvT hZ (hw _ (List.mem_of_getElem? (i := 40) rfl))) (mvT hZ (hw _ (List.mem_of_getElem? (i := 41) rfl))) (notFace_of_selects (args := #[]) (mvT hZ (hw _ (List.mem_of_getElem? (i := 43) rfl)))) (mvT hZ (hw _ (List.mem_of_getElem? (i := 43) rfl))) (mvT hZ (hw _ (List.mem_of_getElem? (i := 42) rfl))) (by decide) (backOf (W := 0) (rm_sz2 l Z a0 hw [] b30 ea ca kE kC y122_0 y122_1 d122_0 d122_1 T119.heap n0 Zs120 A119 Fe119 Fc119 F2_122 V0_122 V1_122) hZ (hw _ (List.mem_of_getElem? (i := 44) rfl)) (hw _ (List.mem_of_getElem? (i := 2) rfl)) (by decide) (by decide)) q157a q157c (g := (mkF m 197 #[.val (.long qa), .second, .val (.long qb), .second, .val (.long qd), .second, .val (.int vc), .val (.int vk), .val (.long qq), .second, .val (.int nk), .val (.long q1), .second, .val (.long q2), .second, .val (.long q3), .second, .val (.long qe1), .second, .val (.long qe2), .second, .val (.long qr), .second, .val (.ref b30), .val (.long tt3), .second, .val (.int (0 : Int32)), .unset] [(.ref b30)])) rfl (by rw [hml]; rfl) (Steps.refl _) (argsL := []) (rest := []) (lenOf pd_4 rfl) rfl (by show 2 * 0 + _ ≤ _; exact Nat.le_of_eq rfl) (hb hby at_197) (fun _ _ => ⟨rfl, e154, (by decide : 3 + 0 ≤ _), (by decide : 35 + 0 ≤ _)⟩)
              dsimp only [Pt.U, Pt.locs, Pt.cells, Pt.slots] at X157 l157 y157 z157 st157 hQ157
              subst l157 y157 z157
              obtain ⟨zs, rfl, hzs, N157q, e157⟩ := hQ157
              have N157 := Fr.app N154 N157q
              have pre158 : ∀ t, Steps p.tables e below (T157.setTop (mkF m 200 #[.val (.long qa), .second, .val (.long qb), .second, .val (.long qd), .second, .val (.int vc), .val (.int vk), .val (.long qq), .second, .val (.int nk), .val (.long q1), .second, .val (.long q2), .second, .val (.long q3), .second, .val (.long qe1), .second, .val (.long qe2), .second, .val (.long qr), .second, .val (.ref b30), .val (.long tt3), .second, .val (.int (0 : Int32)), .unset] [(.int zs)])) t → Steps p.tables e below (s₁.setTop (entryFrame m #[(.long qa), (.long qb), (.long qd), (.int vc), (.int vk), (.long qq)] maxLocals)) t := fun t kt => by
                refine pre156 _ ?_
                refine XS.istore X154.here hx rfl (hb hby at_193) rfl (l' := #[.val (.long qa), .second, .val (.long qb), .second, .val (.long qd), .second, .val (.int vc), .val (.int vk), .val (.long qq), .second, .val (.int nk), .val (.long q1), .second, .val (.long q2), .second, .val (.long q3), .second, .val (.long qe1), .second, .val (.long qe2), .second, .val (.long qr), .second, .val (.ref b30), .val (.long tt3), .second, .val (.int (0 : Int32)), .unset]) rfl ?_
                refine XS.aload X154.here hx rfl (hb hby at_195) rfl rfl ?_
                show Steps p.tables e below (T154.setTop (mkF m 197 #[.val (.long qa), .second, .val (.long qb), .second, .val (.long qd), .second, .val (.int vc), .val (.int vk), .val (.long qq), .second, .val (.int nk), .val (.long q1), .second, .val (.long q2), .second, .val (.long q3), .second, .val (.long qe1), .second, .val (.long qe2), .second, .val (.long qr), .second, .val (.ref b30), .val (.long tt3), .second, .val (.int (0 : Int32)), .unset] [(.ref b30)])) _
                refine st157.trans ?_
                exact kt
              subst hzs
              have pre159 : ∀ t, Steps p.tables e below (T157.setTop (mkF m 200 #[.val (.long qa), .second, .val (.long qb), .second, .val (.long qd), .second, .val (.int vc), .val (.int vk), .val (.long qq), .second, .val (.int nk), .val (.long q1), .second, .val (.long q2), .second, .val (.long q3), .second, .val (.long qe1), .second, .val (.long qe2), .second, .val (.long qr), .second, .val (.ref b30), .val (.long tt3), .second, .val (.int (0 : Int32)), .unset] [(.int (2 : Int32))])) t → Steps p.tables e below (s₁.setTop (entryFrame m #[(.long qa), (.long qb), (.long qd), (.int vc), (.int vk), (.long qq)] maxLocals)) t := pre158
              have hc204_160 : ¬ ((0 : Int) < (0 : Int)) := by decide
              have hc211_161 : ¬ ((2 : Int) < (0 : Int)) := by decide
              have hc220_162 : (0 : Int) < (2 : Int) := by decide
              obtain ⟨cq163, kq163, q163a, q163b, q163c⟩ := isOf hZ e157 A119
              obtain ⟨_, _, ⟨T163, L163, k163, n163⟩, -, X163, ⟨Lc163, hQ163, l163, y163, z163⟩, st163⟩ := X157.virtualBack hx (y := (⟨"com/example/foreslot/foreslot/CountsByEnd", "end", "(I)J"⟩ : MethodName)) (z := (⟨"com/example/foreslot/foreslot/CountsByEnd", "end", "(I)J"⟩ : MethodName)) hown (mvT hZ (hw _ (List.mem_of_getElem? (i := 45) rfl))) (mvT hZ (hw _ (List.mem_of_getElem? (i := 46) rfl))) (notFace_of_selects (args := #[]) (mvT hZ (hw _ (List.mem_of_getElem? (i := 48) rfl)))) (mvT hZ (hw _ (List.mem_of_getElem? (i := 48) rfl))) (mvT hZ (hw _ (List.mem_of_getElem? (i := 47) rfl))) (by decide) (backOf (W := 1) (rm_e2_0 l Z a0 hw [] b30 ea ca kE kC y122_0 y122_1 d122_0 d122_1 T119.heap n0 Zs120 A119 Fe119 Fc119 F2_122 V0_122 V1_122) hZ (hw _ (List.mem_of_getElem? (i := 49) rfl)) (hw _ (List.mem_of_getElem? (i := 2) rfl)) (by decide) (by decide)) q163a q163c (g := (mkF m 229 #[.val (.long qa), .second, .val (.long qb), .second, .val (.long qd), .second, .val (.int vc), .val (.int vk), .val (.long qq), .second, .val (.int nk), .val (.long q1), .second, .val (.long q2), .second, .val (.long q3), .second, .val (.long qe1), .second, .val (.long qe2), .second, .val (.long qr), .second, .val (.ref b30), .val (.long tt3), .second, .val (.int (0 : Int32)), .val (.int (2 : Int32))] [(.int (0 : Int32)), (.ref b30), (.ref b30)])) rfl (by rw [hml]; rfl) (Steps.refl _) (argsL := [(.int (0 : Int32))]) (rest := [(.ref b30)]) (lenOf pd_6 rfl) rfl (by show 2 * 0 + _ ≤ _; exact Nat.le_of_eq rfl) (hb hby at_229) (fun _ _ => ⟨rfl, e157, (by decide : 3 + 0 ≤ _), (by decide : 35 + 0 ≤ _)⟩)
              dsimp only [Pt.U, Pt.locs, Pt.cells, Pt.slots] at X163 l163 y163 z163 st163 hQ163
              subst l163 y163 z163
              obtain ⟨ze, rfl, hze, N163q, e163⟩ := hQ163
              have N163 := Fr.app N157 N163q
              obtain ⟨cq164, kq164, q164a, q164b, q164c⟩ := isOf hZ e163 A119
              obtain ⟨_, _, ⟨T164, L164, k164, n164⟩, -, X164, ⟨Lc164, hQ164, l164, y164, z164⟩, st164⟩ := X163.virtualBack hx (y := (⟨"com/example/foreslot/foreslot/CountsByEnd", "heldUntilAtLatest", "(J)J"⟩ : MethodName)) (z := (⟨"com/example/foreslot/foreslot/CountsByEnd", "heldUntilAtLatest", "(J)J"⟩ : MethodName)) hown (mvT hZ (hw _ (List.mem_of_getElem? (i := 50) rfl))) (mvT hZ (hw _ (List.mem_of_getElem? (i := 51) rfl))) (notFace_of_selects (args := #[]) (mvT hZ (hw _ (List.mem_of_getElem? (i := 53) rfl)))) (mvT hZ (hw _ (List.mem_of_getElem? (i := 53) rfl))) (mvT hZ (hw _ (List.mem_of_getElem? (i := 52) rfl))) (by decide) (backOf (W := 0) (rm_h2 l Z a0 hw [] b30 ze ea ca kE kC y122_0 y122_1 d122_0 d122_1 T119.heap n0 Zs120 A119 Fe119 Fc119 F2_122 V0_122 V1_122 (by omega) (by omega) (by omega) (by omega)) hZ (hw _ (List.mem_of_getElem? (i := 54) rfl)) (hw _ (List.mem_of_getElem? (i := 2) rfl)) (by decide) (by decide)) q164a q164c (g := (mkF m 232 #[.val (.long qa), .second, .val (.long qb), .second, .val (.long qd), .second, .val (.int vc), .val (.int vk), .val (.long qq), .second, .val (.int nk), .val (.long q1), .second, .val (.long q2), .second, .val (.long q3), .second, .val (.long qe1), .second, .val (.long qe2), .second, .val (.long qr), .second, .val (.ref b30), .val (.long tt3), .second, .val (.int (0 : Int32)), .val (.int (2 : Int32))] [(.long ze), (.ref b30)])) rfl (by rw [hml]; rfl) (Steps.refl _) (argsL := [(.long ze)]) (rest := []) (lenOf pd_7 rfl) rfl (by show 2 * 0 + _ ≤ _; exact Nat.le_of_eq rfl) (hb hby at_232) (fun _ _ => ⟨rfl, e163, (by decide : 3 + 0 ≤ _), (by decide : 35 + 0 ≤ _)⟩)
              dsimp only [Pt.U, Pt.locs, Pt.cells, Pt.slots] at X164 l164 y164 z164 st164 hQ164
              subst l164 y164 z164
              obtain ⟨hd, rfl, hhd, N164q, e164⟩ := hQ164
              have N164 := Fr.app N163 N164q
              have hc238_165 : ¬ (hd.toInt < qr.toInt) := by rw [own_fp (x := y122_0.toInt) (by omega), own_fn (x := y122_1.toInt) (by omega)] at hhd; omega
              have hc260_166 : ¬ ((0 : Int) < (0 : Int)) := by decide
              obtain ⟨fs, hr, hrun, hended, hW, hsame⟩ := X164.leave (v := some (.int (1 : Int32))) (fun h => by rw [Bd.returns] at h; cases h)
              refine ⟨_, _, pre159 _ ?_, hrun, hended, _, _, rfl, ?_, ⟨_, rfl⟩, hW, hsame.mono (by decide) (by decide)⟩
              · refine XS.istore X157.here hx rfl (hb hby at_200) rfl (l' := #[.val (.long qa), .second, .val (.long qb), .second, .val (.long qd), .second, .val (.int vc), .val (.int vk), .val (.long qq), .second, .val (.int nk), .val (.long q1), .second, .val (.long q2), .second, .val (.long q3), .second, .val (.long qe1), .second, .val (.long qe2), .second, .val (.long qr), .second, .val (.ref b30), .val (.long tt3), .second, .val (.int (0 : Int32)), .val (.int (2 : Int32))]) rfl ?_
                refine XS.iload X157.here hx rfl (hb hby at_202) rfl ?_
                refine XS.ifNo X157.here hx rfl (hb hby at_204) rfl (own_if (own_flt (a := (0 : Int32)) (b := (0 : Int32)) (by decide) (by decide) hc204_160).1) ?_
                refine XS.iload X157.here hx rfl (hb hby at_207) rfl ?_
                show Steps p.tables e below (T157.setTop (mkF m 209 #[.val (.long qa), .second, .val (.long qb), .second, .val (.long qd), .second, .val (.int vc), .val (.int vk), .val (.long qq), .second, .val (.int nk), .val (.long q1), .second, .val (.long q2), .second, .val (.long q3), .second, .val (.long qe1), .second, .val (.long qe2), .second, .val (.long qr), .second, .val (.ref b30), .val (.long tt3), .second, .val (.int (0 : Int32)), .val (.int (2 : Int32))] [(.int (0 : Int32))])) _
                refine XS.iload X157.here hx rfl (hb hby at_209) rfl ?_
                refine XS.icmpYes X157.here hx rfl (pc0 := 211) (pc' := 216) rfl (hb hby at_211) rfl (own_flt (a := (2 : Int32)) (b := (0 : Int32)) (by decide) (by decide) hc211_161).2.2.2 (by decide) (by decide) ?_
                refine XS.iload X157.here hx rfl (hb hby at_216) rfl ?_
                refine XS.iload X157.here hx rfl (hb hby at_218) rfl ?_
                refine XS.icmpNo X157.here hx rfl (hb hby at_220) rfl (own_tlt (a := (0 : Int32)) (b := (2 : Int32)) (by decide) (by decide) hc220_162).2.1 ?_
                show Steps p.tables e below (T157.setTop (mkF m 223 #[.val (.long qa), .second, .val (.long qb), .second, .val (.long qd), .second, .val (.int vc), .val (.int vk), .val (.long qq), .second, .val (.int nk), .val (.long q1), .second, .val (.long q2), .second, .val (.long q3), .second, .val (.long qe1), .second, .val (.long qe2), .second, .val (.long qr), .second, .val (.ref b30), .val (.long tt3), .second, .val (.int (0 : Int32)), .val (.int (2 : Int32))] [])) _
                refine XS.aload X157.here hx rfl (hb hby at_223) rfl rfl ?_
                refine XS.aload X157.here hx rfl (hb hby at_225) rfl rfl ?_
                refine XS.iload X157.here hx rfl (hb hby at_227) rfl ?_
                refine st163.trans ?_
                refine st164.trans ?_
                show Steps p.tables e below (T164.setTop (mkF m 235 #[.val (.long qa), .second, .val (.long qb), .second, .val (.long qd), .second, .val (.int vc), .val (.int vk), .val (.long qq), .second, .val (.int nk), .val (.long q1), .second, .val (.long q2), .second, .val (.long q3), .second, .val (.long qe1), .second, .val (.long qe2), .second, .val (.long qr), .second, .val (.ref b30), .val (.long tt3), .second, .val (.int (0 : Int32)), .val (.int (2 : Int32))] [(.long hd)])) _
                refine XS.lload X164.here hx rfl (hb hby at_235) rfl ?_
                refine XS.lcmp X164.here hx rfl (hb hby at_237) rfl ?_
                refine XS.ifYes X164.here hx rfl (pc0 := 238) (pc' := 258) rfl (hb hby at_238) rfl (own_if (own_fltL (x := hd) (y := qr) rfl rfl hc238_165).2) (by decide) (by decide) ?_
                refine XS.iload X164.here hx rfl (hb hby at_258) rfl ?_
                refine XS.ifYes X164.here hx rfl (pc0 := 260) (pc' := 285) rfl (hb hby at_260) rfl (own_if (own_flt (a := (0 : Int32)) (b := (0 : Int32)) (by decide) (by decide) hc260_166).2.2.2) (by decide) (by decide) ?_
                show Steps p.tables e below (T164.setTop (mkF m 285 #[.val (.long qa), .second, .val (.long qb), .second, .val (.long qd), .second, .val (.int vc), .val (.int vk), .val (.long qq), .second, .val (.int nk), .val (.long q1), .second, .val (.long q2), .second, .val (.long q3), .second, .val (.long qe1), .second, .val (.long qe2), .second, .val (.long qr), .second, .val (.ref b30), .val (.long tt3), .second, .val (.int (0 : Int32)), .val (.int (2 : Int32))] [])) _
                refine XS.iconst X164.here hx rfl (hb hby at_285) ?_
                exact retN X164 hx (t := .boolean) Bd.returns (by simp) (hb hby at_286) hr
              · show Q0 Z qa qb qd vc vk qq h0 n0 _ T164.heap _
                rw [e164]
                exact ⟨rfl, N164⟩
            · have pre167 : ∀ t, Steps p.tables e below (T154.setTop (mkF m 193 #[.val (.long qa), .second, .val (.long qb), .second, .val (.long qd), .second, .val (.int vc), .val (.int vk), .val (.long qq), .second, .val (.int nk), .val (.long q1), .second, .val (.long q2), .second, .val (.long q3), .second, .val (.long qe1), .second, .val (.long qe2), .second, .val (.long qr), .second, .val (.ref b30), .val (.long tt3), .second, .unset, .unset] [(.int (1 : Int32))])) t → Steps p.tables e below (s₁.setTop (entryFrame m #[(.long qa), (.long qb), (.long qd), (.int vc), (.int vk), (.long qq)] maxLocals)) t := pre155
              obtain ⟨cq168, kq168, q168a, q168b, q168c⟩ := isOf hZ e154 A119
              obtain ⟨_, _, ⟨T168, L168, k168, n168⟩, -, X168, ⟨Lc168, hQ168, l168, y168, z168⟩, st168⟩ := X154.virtualBack hx (y := (⟨"com/example/foreslot/foreslot/CountsByEnd", "size", "()I"⟩ : MethodName)) (z := (⟨"com/example/foreslot/foreslot/CountsByEnd", "size", "()I"⟩ : MethodName)) hown (mvT hZ (hw _ (List.mem_of_getElem? (i := 40) rfl))) (mvT hZ (hw _ (List.mem_of_getElem? (i := 41) rfl))) (notFace_of_selects (args := #[]) (mvT hZ (hw _ (List.mem_of_getElem? (i := 43) rfl)))) (mvT hZ (hw _ (List.mem_of_getElem? (i := 43) rfl))) (mvT hZ (hw _ (List.mem_of_getElem? (i := 42) rfl))) (by decide) (backOf (W := 0) (rm_sz2 l Z a0 hw [] b30 ea ca kE kC y122_0 y122_1 d122_0 d122_1 T119.heap n0 Zs120 A119 Fe119 Fc119 F2_122 V0_122 V1_122) hZ (hw _ (List.mem_of_getElem? (i := 44) rfl)) (hw _ (List.mem_of_getElem? (i := 2) rfl)) (by decide) (by decide)) q168a q168c (g := (mkF m 197 #[.val (.long qa), .second, .val (.long qb), .second, .val (.long qd), .second, .val (.int vc), .val (.int vk), .val (.long qq), .second, .val (.int nk), .val (.long q1), .second, .val (.long q2), .second, .val (.long q3), .second, .val (.long qe1), .second, .val (.long qe2), .second, .val (.long qr), .second, .val (.ref b30), .val (.long tt3), .second, .val (.int (1 : Int32)), .unset] [(.ref b30)])) rfl (by rw [hml]; rfl) (Steps.refl _) (argsL := []) (rest := []) (lenOf pd_4 rfl) rfl (by show 2 * 0 + _ ≤ _; exact Nat.le_of_eq rfl) (hb hby at_197) (fun _ _ => ⟨rfl, e154, (by decide : 3 + 0 ≤ _), (by decide : 35 + 0 ≤ _)⟩)
              dsimp only [Pt.U, Pt.locs, Pt.cells, Pt.slots] at X168 l168 y168 z168 st168 hQ168
              subst l168 y168 z168
              obtain ⟨zs, rfl, hzs, N168q, e168⟩ := hQ168
              have N168 := Fr.app N154 N168q
              have pre169 : ∀ t, Steps p.tables e below (T168.setTop (mkF m 200 #[.val (.long qa), .second, .val (.long qb), .second, .val (.long qd), .second, .val (.int vc), .val (.int vk), .val (.long qq), .second, .val (.int nk), .val (.long q1), .second, .val (.long q2), .second, .val (.long q3), .second, .val (.long qe1), .second, .val (.long qe2), .second, .val (.long qr), .second, .val (.ref b30), .val (.long tt3), .second, .val (.int (1 : Int32)), .unset] [(.int zs)])) t → Steps p.tables e below (s₁.setTop (entryFrame m #[(.long qa), (.long qb), (.long qd), (.int vc), (.int vk), (.long qq)] maxLocals)) t := fun t kt => by
                refine pre167 _ ?_
                refine XS.istore X154.here hx rfl (hb hby at_193) rfl (l' := #[.val (.long qa), .second, .val (.long qb), .second, .val (.long qd), .second, .val (.int vc), .val (.int vk), .val (.long qq), .second, .val (.int nk), .val (.long q1), .second, .val (.long q2), .second, .val (.long q3), .second, .val (.long qe1), .second, .val (.long qe2), .second, .val (.long qr), .second, .val (.ref b30), .val (.long tt3), .second, .val (.int (1 : Int32)), .unset]) rfl ?_
                refine XS.aload X154.here hx rfl (hb hby at_195) rfl rfl ?_
                show Steps p.tables e below (T154.setTop (mkF m 197 #[.val (.long qa), .second, .val (.long qb), .second, .val (.long qd), .second, .val (.int vc), .val (.int vk), .val (.long qq), .second, .val (.int nk), .val (.long q1), .second, .val (.long q2), .second, .val (.long q3), .second, .val (.long qe1), .second, .val (.long qe2), .second, .val (.long qr), .second, .val (.ref b30), .val (.long tt3), .second, .val (.int (1 : Int32)), .unset] [(.ref b30)])) _
                refine st168.trans ?_
                exact kt
              subst hzs
              have pre170 : ∀ t, Steps p.tables e below (T168.setTop (mkF m 200 #[.val (.long qa), .second, .val (.long qb), .second, .val (.long qd), .second, .val (.int vc), .val (.int vk), .val (.long qq), .second, .val (.int nk), .val (.long q1), .second, .val (.long q2), .second, .val (.long q3), .second, .val (.long qe1), .second, .val (.long qe2), .second, .val (.long qr), .second, .val (.ref b30), .val (.long tt3), .second, .val (.int (1 : Int32)), .unset] [(.int (2 : Int32))])) t → Steps p.tables e below (s₁.setTop (entryFrame m #[(.long qa), (.long qb), (.long qd), (.int vc), (.int vk), (.long qq)] maxLocals)) t := pre169
              have hc204_171 : ¬ ((1 : Int) < (0 : Int)) := by decide
              have hc211_172 : ¬ ((2 : Int) < (1 : Int)) := by decide
              have hc220_173 : (1 : Int) < (2 : Int) := by decide
              obtain ⟨cq174, kq174, q174a, q174b, q174c⟩ := isOf hZ e168 A119
              obtain ⟨_, _, ⟨T174, L174, k174, n174⟩, -, X174, ⟨Lc174, hQ174, l174, y174, z174⟩, st174⟩ := X168.virtualBack hx (y := (⟨"com/example/foreslot/foreslot/CountsByEnd", "end", "(I)J"⟩ : MethodName)) (z := (⟨"com/example/foreslot/foreslot/CountsByEnd", "end", "(I)J"⟩ : MethodName)) hown (mvT hZ (hw _ (List.mem_of_getElem? (i := 45) rfl))) (mvT hZ (hw _ (List.mem_of_getElem? (i := 46) rfl))) (notFace_of_selects (args := #[]) (mvT hZ (hw _ (List.mem_of_getElem? (i := 48) rfl)))) (mvT hZ (hw _ (List.mem_of_getElem? (i := 48) rfl))) (mvT hZ (hw _ (List.mem_of_getElem? (i := 47) rfl))) (by decide) (backOf (W := 1) (rm_e2_1 l Z a0 hw [] b30 ea ca kE kC y122_0 y122_1 d122_0 d122_1 T119.heap n0 Zs120 A119 Fe119 Fc119 F2_122 V0_122 V1_122) hZ (hw _ (List.mem_of_getElem? (i := 49) rfl)) (hw _ (List.mem_of_getElem? (i := 2) rfl)) (by decide) (by decide)) q174a q174c (g := (mkF m 229 #[.val (.long qa), .second, .val (.long qb), .second, .val (.long qd), .second, .val (.int vc), .val (.int vk), .val (.long qq), .second, .val (.int nk), .val (.long q1), .second, .val (.long q2), .second, .val (.long q3), .second, .val (.long qe1), .second, .val (.long qe2), .second, .val (.long qr), .second, .val (.ref b30), .val (.long tt3), .second, .val (.int (1 : Int32)), .val (.int (2 : Int32))] [(.int (1 : Int32)), (.ref b30), (.ref b30)])) rfl (by rw [hml]; rfl) (Steps.refl _) (argsL := [(.int (1 : Int32))]) (rest := [(.ref b30)]) (lenOf pd_6 rfl) rfl (by show 2 * 0 + _ ≤ _; exact Nat.le_of_eq rfl) (hb hby at_229) (fun _ _ => ⟨rfl, e168, (by decide : 3 + 0 ≤ _), (by decide : 35 + 0 ≤ _)⟩)
              dsimp only [Pt.U, Pt.locs, Pt.cells, Pt.slots] at X174 l174 y174 z174 st174 hQ174
              subst l174 y174 z174
              obtain ⟨ze, rfl, hze, N174q, e174⟩ := hQ174
              have N174 := Fr.app N168 N174q
              obtain ⟨cq175, kq175, q175a, q175b, q175c⟩ := isOf hZ e174 A119
              obtain ⟨_, _, ⟨T175, L175, k175, n175⟩, -, X175, ⟨Lc175, hQ175, l175, y175, z175⟩, st175⟩ := X174.virtualBack hx (y := (⟨"com/example/foreslot/foreslot/CountsByEnd", "heldUntilAtLatest", "(J)J"⟩ : MethodName)) (z := (⟨"com/example/foreslot/foreslot/CountsByEnd", "heldUntilAtLatest", "(J)J"⟩ : MethodName)) hown (mvT hZ (hw _ (List.mem_of_getElem? (i := 50) rfl))) (mvT hZ (hw _ (List.mem_of_getElem? (i := 51) rfl))) (notFace_of_selects (args := #[]) (mvT hZ (hw _ (List.mem_of_getElem? (i := 53) rfl)))) (mvT hZ (hw _ (List.mem_of_getElem? (i := 53) rfl))) (mvT hZ (hw _ (List.mem_of_getElem? (i := 52) rfl))) (by decide) (backOf (W := 0) (rm_h2 l Z a0 hw [] b30 ze ea ca kE kC y122_0 y122_1 d122_0 d122_1 T119.heap n0 Zs120 A119 Fe119 Fc119 F2_122 V0_122 V1_122 (by omega) (by omega) (by omega) (by omega)) hZ (hw _ (List.mem_of_getElem? (i := 54) rfl)) (hw _ (List.mem_of_getElem? (i := 2) rfl)) (by decide) (by decide)) q175a q175c (g := (mkF m 232 #[.val (.long qa), .second, .val (.long qb), .second, .val (.long qd), .second, .val (.int vc), .val (.int vk), .val (.long qq), .second, .val (.int nk), .val (.long q1), .second, .val (.long q2), .second, .val (.long q3), .second, .val (.long qe1), .second, .val (.long qe2), .second, .val (.long qr), .second, .val (.ref b30), .val (.long tt3), .second, .val (.int (1 : Int32)), .val (.int (2 : Int32))] [(.long ze), (.ref b30)])) rfl (by rw [hml]; rfl) (Steps.refl _) (argsL := [(.long ze)]) (rest := []) (lenOf pd_7 rfl) rfl (by show 2 * 0 + _ ≤ _; exact Nat.le_of_eq rfl) (hb hby at_232) (fun _ _ => ⟨rfl, e174, (by decide : 3 + 0 ≤ _), (by decide : 35 + 0 ≤ _)⟩)
              dsimp only [Pt.U, Pt.locs, Pt.cells, Pt.slots] at X175 l175 y175 z175 st175 hQ175
              subst l175 y175 z175
              obtain ⟨hd, rfl, hhd, N175q, e175⟩ := hQ175
              have N175 := Fr.app N174 N175q
              have hc238_176 : ¬ (hd.toInt < qr.toInt) := by rw [own_fp (x := y122_0.toInt) (by omega), own_fp (x := y122_1.toInt) (by omega)] at hhd; omega
              have hc260_177 : (0 : Int) < (1 : Int) := by decide
              obtain ⟨cq178, kq178, q178a, q178b, q178c⟩ := isOf hZ e175 A119
              obtain ⟨_, _, ⟨T178, L178, k178, n178⟩, -, X178, ⟨Lc178, hQ178, l178, y178, z178⟩, st178⟩ := X175.virtualBack hx (y := (⟨"com/example/foreslot/foreslot/CountsByEnd", "end", "(I)J"⟩ : MethodName)) (z := (⟨"com/example/foreslot/foreslot/CountsByEnd", "end", "(I)J"⟩ : MethodName)) hown (mvT hZ (hw _ (List.mem_of_getElem? (i := 45) rfl))) (mvT hZ (hw _ (List.mem_of_getElem? (i := 46) rfl))) (notFace_of_selects (args := #[]) (mvT hZ (hw _ (List.mem_of_getElem? (i := 48) rfl)))) (mvT hZ (hw _ (List.mem_of_getElem? (i := 48) rfl))) (mvT hZ (hw _ (List.mem_of_getElem? (i := 47) rfl))) (by decide) (backOf (W := 1) (rm_e2_0 l Z a0 hw [] b30 ea ca kE kC y122_0 y122_1 d122_0 d122_1 T119.heap n0 Zs120 A119 Fe119 Fc119 F2_122 V0_122 V1_122) hZ (hw _ (List.mem_of_getElem? (i := 49) rfl)) (hw _ (List.mem_of_getElem? (i := 2) rfl)) (by decide) (by decide)) q178a q178c (g := (mkF m 271 #[.val (.long qa), .second, .val (.long qb), .second, .val (.long qd), .second, .val (.int vc), .val (.int vk), .val (.long qq), .second, .val (.int nk), .val (.long q1), .second, .val (.long q2), .second, .val (.long q3), .second, .val (.long qe1), .second, .val (.long qe2), .second, .val (.long qr), .second, .val (.ref b30), .val (.long tt3), .second, .val (.int (1 : Int32)), .val (.int (2 : Int32))] [(.int (0 : Int32)), (.ref b30), (.ref b30)])) rfl (by rw [hml]; rfl) (Steps.refl _) (argsL := [(.int (0 : Int32))]) (rest := [(.ref b30)]) (lenOf pd_6 rfl) rfl (by show 2 * 0 + _ ≤ _; exact Nat.le_of_eq rfl) (hb hby at_271) (fun _ _ => ⟨rfl, e175, (by decide : 3 + 0 ≤ _), (by decide : 35 + 0 ≤ _)⟩)
              dsimp only [Pt.U, Pt.locs, Pt.cells, Pt.slots] at X178 l178 y178 z178 st178 hQ178
              subst l178 y178 z178
              obtain ⟨zf, rfl, hzf, N178q, e178⟩ := hQ178
              have N178 := Fr.app N175 N178q
              obtain ⟨cq179, kq179, q179a, q179b, q179c⟩ := isOf hZ e178 A119
              obtain ⟨_, _, ⟨T179, L179, k179, n179⟩, -, X179, ⟨Lc179, hQ179, l179, y179, z179⟩, st179⟩ := X178.virtualBack hx (y := (⟨"com/example/foreslot/foreslot/CountsByEnd", "heldUntilAtLatest", "(J)J"⟩ : MethodName)) (z := (⟨"com/example/foreslot/foreslot/CountsByEnd", "heldUntilAtLatest", "(J)J"⟩ : MethodName)) hown (mvT hZ (hw _ (List.mem_of_getElem? (i := 50) rfl))) (mvT hZ (hw _ (List.mem_of_getElem? (i := 51) rfl))) (notFace_of_selects (args := #[]) (mvT hZ (hw _ (List.mem_of_getElem? (i := 53) rfl)))) (mvT hZ (hw _ (List.mem_of_getElem? (i := 53) rfl))) (mvT hZ (hw _ (List.mem_of_getElem? (i := 52) rfl))) (by decide) (backOf (W := 0) (rm_h2 l Z a0 hw [] b30 zf ea ca kE kC y122_0 y122_1 d122_0 d122_1 T119.heap n0 Zs120 A119 Fe119 Fc119 F2_122 V0_122 V1_122 (by omega) (by omega) (by omega) (by omega)) hZ (hw _ (List.mem_of_getElem? (i := 54) rfl)) (hw _ (List.mem_of_getElem? (i := 2) rfl)) (by decide) (by decide)) q179a q179c (g := (mkF m 274 #[.val (.long qa), .second, .val (.long qb), .second, .val (.long qd), .second, .val (.int vc), .val (.int vk), .val (.long qq), .second, .val (.int nk), .val (.long q1), .second, .val (.long q2), .second, .val (.long q3), .second, .val (.long qe1), .second, .val (.long qe2), .second, .val (.long qr), .second, .val (.ref b30), .val (.long tt3), .second, .val (.int (1 : Int32)), .val (.int (2 : Int32))] [(.long zf), (.ref b30)])) rfl (by rw [hml]; rfl) (Steps.refl _) (argsL := [(.long zf)]) (rest := []) (lenOf pd_7 rfl) rfl (by show 2 * 0 + _ ≤ _; exact Nat.le_of_eq rfl) (hb hby at_274) (fun _ _ => ⟨rfl, e178, (by decide : 3 + 0 ≤ _), (by decide : 35 + 0 ≤ _)⟩)
              dsimp only [Pt.U, Pt.locs, Pt.cells, Pt.slots] at X179 l179 y179 z179 st179 hQ179
              subst l179 y179 z179
              obtain ⟨hf, rfl, hhf, N179q, e179⟩ := hQ179
              have N179 := Fr.app N178 N179q
              have hc280_180 : hf.toInt < qr.toInt := by rw [own_fp (x := y122_0.toInt) (by omega), own_fn (x := y122_1.toInt) (by omega)] at hhf; omega
              obtain ⟨fs, hr, hrun, hended, hW, hsame⟩ := X179.leave (v := some (.int (1 : Int32))) (fun h => by rw [Bd.returns] at h; cases h)
              refine ⟨_, _, pre170 _ ?_, hrun, hended, _, _, rfl, ?_, ⟨_, rfl⟩, hW, hsame.mono (by decide) (by decide)⟩
              · refine XS.istore X168.here hx rfl (hb hby at_200) rfl (l' := #[.val (.long qa), .second, .val (.long qb), .second, .val (.long qd), .second, .val (.int vc), .val (.int vk), .val (.long qq), .second, .val (.int nk), .val (.long q1), .second, .val (.long q2), .second, .val (.long q3), .second, .val (.long qe1), .second, .val (.long qe2), .second, .val (.long qr), .second, .val (.ref b30), .val (.long tt3), .second, .val (.int (1 : Int32)), .val (.int (2 : Int32))]) rfl ?_
                refine XS.iload X168.here hx rfl (hb hby at_202) rfl ?_
                refine XS.ifNo X168.here hx rfl (hb hby at_204) rfl (own_if (own_flt (a := (1 : Int32)) (b := (0 : Int32)) (by decide) (by decide) hc204_171).1) ?_
                refine XS.iload X168.here hx rfl (hb hby at_207) rfl ?_
                show Steps p.tables e below (T168.setTop (mkF m 209 #[.val (.long qa), .second, .val (.long qb), .second, .val (.long qd), .second, .val (.int vc), .val (.int vk), .val (.long qq), .second, .val (.int nk), .val (.long q1), .second, .val (.long q2), .second, .val (.long q3), .second, .val (.long qe1), .second, .val (.long qe2), .second, .val (.long qr), .second, .val (.ref b30), .val (.long tt3), .second, .val (.int (1 : Int32)), .val (.int (2 : Int32))] [(.int (1 : Int32))])) _
                refine XS.iload X168.here hx rfl (hb hby at_209) rfl ?_
                refine XS.icmpYes X168.here hx rfl (pc0 := 211) (pc' := 216) rfl (hb hby at_211) rfl (own_flt (a := (2 : Int32)) (b := (1 : Int32)) (by decide) (by decide) hc211_172).2.2.2 (by decide) (by decide) ?_
                refine XS.iload X168.here hx rfl (hb hby at_216) rfl ?_
                refine XS.iload X168.here hx rfl (hb hby at_218) rfl ?_
                refine XS.icmpNo X168.here hx rfl (hb hby at_220) rfl (own_tlt (a := (1 : Int32)) (b := (2 : Int32)) (by decide) (by decide) hc220_173).2.1 ?_
                show Steps p.tables e below (T168.setTop (mkF m 223 #[.val (.long qa), .second, .val (.long qb), .second, .val (.long qd), .second, .val (.int vc), .val (.int vk), .val (.long qq), .second, .val (.int nk), .val (.long q1), .second, .val (.long q2), .second, .val (.long q3), .second, .val (.long qe1), .second, .val (.long qe2), .second, .val (.long qr), .second, .val (.ref b30), .val (.long tt3), .second, .val (.int (1 : Int32)), .val (.int (2 : Int32))] [])) _
                refine XS.aload X168.here hx rfl (hb hby at_223) rfl rfl ?_
                refine XS.aload X168.here hx rfl (hb hby at_225) rfl rfl ?_
                refine XS.iload X168.here hx rfl (hb hby at_227) rfl ?_
                refine st174.trans ?_
                refine st175.trans ?_
                show Steps p.tables e below (T175.setTop (mkF m 235 #[.val (.long qa), .second, .val (.long qb), .second, .val (.long qd), .second, .val (.int vc), .val (.int vk), .val (.long qq), .second, .val (.int nk), .val (.long q1), .second, .val (.long q2), .second, .val (.long q3), .second, .val (.long qe1), .second, .val (.long qe2), .second, .val (.long qr), .second, .val (.ref b30), .val (.long tt3), .second, .val (.int (1 : Int32)), .val (.int (2 : Int32))] [(.long hd)])) _
                refine XS.lload X175.here hx rfl (hb hby at_235) rfl ?_
                refine XS.lcmp X175.here hx rfl (hb hby at_237) rfl ?_
                refine XS.ifYes X175.here hx rfl (pc0 := 238) (pc' := 258) rfl (hb hby at_238) rfl (own_if (own_fltL (x := hd) (y := qr) rfl rfl hc238_176).2) (by decide) (by decide) ?_
                refine XS.iload X175.here hx rfl (hb hby at_258) rfl ?_
                refine XS.ifNo X175.here hx rfl (hb hby at_260) rfl (own_if (own_tlt (a := (0 : Int32)) (b := (1 : Int32)) (by decide) (by decide) hc260_177).2.2.2) ?_
                show Steps p.tables e below (T175.setTop (mkF m 263 #[.val (.long qa), .second, .val (.long qb), .second, .val (.long qd), .second, .val (.int vc), .val (.int vk), .val (.long qq), .second, .val (.int nk), .val (.long q1), .second, .val (.long q2), .second, .val (.long q3), .second, .val (.long qe1), .second, .val (.long qe2), .second, .val (.long qr), .second, .val (.ref b30), .val (.long tt3), .second, .val (.int (1 : Int32)), .val (.int (2 : Int32))] [])) _
                refine XS.aload X175.here hx rfl (hb hby at_263) rfl rfl ?_
                refine XS.aload X175.here hx rfl (hb hby at_265) rfl rfl ?_
                refine XS.iload X175.here hx rfl (hb hby at_267) rfl ?_
                refine XS.iconst X175.here hx rfl (hb hby at_269) ?_
                refine XS.isub X175.here hx rfl (hb hby at_270) rfl ?_
                show Steps p.tables e below (T175.setTop (mkF m 271 #[.val (.long qa), .second, .val (.long qb), .second, .val (.long qd), .second, .val (.int vc), .val (.int vk), .val (.long qq), .second, .val (.int nk), .val (.long q1), .second, .val (.long q2), .second, .val (.long q3), .second, .val (.long qe1), .second, .val (.long qe2), .second, .val (.long qr), .second, .val (.ref b30), .val (.long tt3), .second, .val (.int (1 : Int32)), .val (.int (2 : Int32))] [(.int (0 : Int32)), (.ref b30), (.ref b30)])) _
                refine st178.trans ?_
                refine st179.trans ?_
                refine XS.lload X179.here hx rfl (hb hby at_277) rfl ?_
                refine XS.lcmp X179.here hx rfl (hb hby at_279) rfl ?_
                refine XS.ifYes X179.here hx rfl (pc0 := 280) (pc' := 285) rfl (hb hby at_280) rfl (own_if (own_tltL (x := hf) (y := qr) rfl rfl hc280_180).1) (by decide) (by decide) ?_
                show Steps p.tables e below (T179.setTop (mkF m 285 #[.val (.long qa), .second, .val (.long qb), .second, .val (.long qd), .second, .val (.int vc), .val (.int vk), .val (.long qq), .second, .val (.int nk), .val (.long q1), .second, .val (.long q2), .second, .val (.long q3), .second, .val (.long qe1), .second, .val (.long qe2), .second, .val (.long qr), .second, .val (.ref b30), .val (.long tt3), .second, .val (.int (1 : Int32)), .val (.int (2 : Int32))] [])) _
                refine XS.iconst X179.here hx rfl (hb hby at_285) ?_
                exact retN X179 hx (t := .boolean) Bd.returns (by simp) (hb hby at_286) hr
              · show Q0 Z qa qb qd vc vk qq h0 n0 _ T179.heap _
                rw [e179]
                exact ⟨rfl, N179⟩
            · have pre181 : ∀ t, Steps p.tables e below (T154.setTop (mkF m 193 #[.val (.long qa), .second, .val (.long qb), .second, .val (.long qd), .second, .val (.int vc), .val (.int vk), .val (.long qq), .second, .val (.int nk), .val (.long q1), .second, .val (.long q2), .second, .val (.long q3), .second, .val (.long qe1), .second, .val (.long qe2), .second, .val (.long qr), .second, .val (.ref b30), .val (.long tt3), .second, .unset, .unset] [(.int (2 : Int32))])) t → Steps p.tables e below (s₁.setTop (entryFrame m #[(.long qa), (.long qb), (.long qd), (.int vc), (.int vk), (.long qq)] maxLocals)) t := pre155
              obtain ⟨cq182, kq182, q182a, q182b, q182c⟩ := isOf hZ e154 A119
              obtain ⟨_, _, ⟨T182, L182, k182, n182⟩, -, X182, ⟨Lc182, hQ182, l182, y182, z182⟩, st182⟩ := X154.virtualBack hx (y := (⟨"com/example/foreslot/foreslot/CountsByEnd", "size", "()I"⟩ : MethodName)) (z := (⟨"com/example/foreslot/foreslot/CountsByEnd", "size", "()I"⟩ : MethodName)) hown (mvT hZ (hw _ (List.mem_of_getElem? (i := 40) rfl))) (mvT hZ (hw _ (List.mem_of_getElem? (i := 41) rfl))) (notFace_of_selects (args := #[]) (mvT hZ (hw _ (List.mem_of_getElem? (i := 43) rfl)))) (mvT hZ (hw _ (List.mem_of_getElem? (i := 43) rfl))) (mvT hZ (hw _ (List.mem_of_getElem? (i := 42) rfl))) (by decide) (backOf (W := 0) (rm_sz2 l Z a0 hw [] b30 ea ca kE kC y122_0 y122_1 d122_0 d122_1 T119.heap n0 Zs120 A119 Fe119 Fc119 F2_122 V0_122 V1_122) hZ (hw _ (List.mem_of_getElem? (i := 44) rfl)) (hw _ (List.mem_of_getElem? (i := 2) rfl)) (by decide) (by decide)) q182a q182c (g := (mkF m 197 #[.val (.long qa), .second, .val (.long qb), .second, .val (.long qd), .second, .val (.int vc), .val (.int vk), .val (.long qq), .second, .val (.int nk), .val (.long q1), .second, .val (.long q2), .second, .val (.long q3), .second, .val (.long qe1), .second, .val (.long qe2), .second, .val (.long qr), .second, .val (.ref b30), .val (.long tt3), .second, .val (.int (2 : Int32)), .unset] [(.ref b30)])) rfl (by rw [hml]; rfl) (Steps.refl _) (argsL := []) (rest := []) (lenOf pd_4 rfl) rfl (by show 2 * 0 + _ ≤ _; exact Nat.le_of_eq rfl) (hb hby at_197) (fun _ _ => ⟨rfl, e154, (by decide : 3 + 0 ≤ _), (by decide : 35 + 0 ≤ _)⟩)
              dsimp only [Pt.U, Pt.locs, Pt.cells, Pt.slots] at X182 l182 y182 z182 st182 hQ182
              subst l182 y182 z182
              obtain ⟨zs, rfl, hzs, N182q, e182⟩ := hQ182
              have N182 := Fr.app N154 N182q
              have pre183 : ∀ t, Steps p.tables e below (T182.setTop (mkF m 200 #[.val (.long qa), .second, .val (.long qb), .second, .val (.long qd), .second, .val (.int vc), .val (.int vk), .val (.long qq), .second, .val (.int nk), .val (.long q1), .second, .val (.long q2), .second, .val (.long q3), .second, .val (.long qe1), .second, .val (.long qe2), .second, .val (.long qr), .second, .val (.ref b30), .val (.long tt3), .second, .val (.int (2 : Int32)), .unset] [(.int zs)])) t → Steps p.tables e below (s₁.setTop (entryFrame m #[(.long qa), (.long qb), (.long qd), (.int vc), (.int vk), (.long qq)] maxLocals)) t := fun t kt => by
                refine pre181 _ ?_
                refine XS.istore X154.here hx rfl (hb hby at_193) rfl (l' := #[.val (.long qa), .second, .val (.long qb), .second, .val (.long qd), .second, .val (.int vc), .val (.int vk), .val (.long qq), .second, .val (.int nk), .val (.long q1), .second, .val (.long q2), .second, .val (.long q3), .second, .val (.long qe1), .second, .val (.long qe2), .second, .val (.long qr), .second, .val (.ref b30), .val (.long tt3), .second, .val (.int (2 : Int32)), .unset]) rfl ?_
                refine XS.aload X154.here hx rfl (hb hby at_195) rfl rfl ?_
                show Steps p.tables e below (T154.setTop (mkF m 197 #[.val (.long qa), .second, .val (.long qb), .second, .val (.long qd), .second, .val (.int vc), .val (.int vk), .val (.long qq), .second, .val (.int nk), .val (.long q1), .second, .val (.long q2), .second, .val (.long q3), .second, .val (.long qe1), .second, .val (.long qe2), .second, .val (.long qr), .second, .val (.ref b30), .val (.long tt3), .second, .val (.int (2 : Int32)), .unset] [(.ref b30)])) _
                refine st182.trans ?_
                exact kt
              subst hzs
              have pre184 : ∀ t, Steps p.tables e below (T182.setTop (mkF m 200 #[.val (.long qa), .second, .val (.long qb), .second, .val (.long qd), .second, .val (.int vc), .val (.int vk), .val (.long qq), .second, .val (.int nk), .val (.long q1), .second, .val (.long q2), .second, .val (.long q3), .second, .val (.long qe1), .second, .val (.long qe2), .second, .val (.long qr), .second, .val (.ref b30), .val (.long tt3), .second, .val (.int (2 : Int32)), .unset] [(.int (2 : Int32))])) t → Steps p.tables e below (s₁.setTop (entryFrame m #[(.long qa), (.long qb), (.long qd), (.int vc), (.int vk), (.long qq)] maxLocals)) t := pre183
              have hc204_185 : ¬ ((2 : Int) < (0 : Int)) := by decide
              have hc211_186 : ¬ ((2 : Int) < (2 : Int)) := by decide
              have hc220_187 : ¬ ((2 : Int) < (2 : Int)) := by decide
              have hc245_188 : (0 : Int) < (2 : Int) := by decide
              have hc253_189 : tt3.toInt < qr.toInt := by omega
              have hc260_190 : (0 : Int) < (2 : Int) := by decide
              obtain ⟨cq191, kq191, q191a, q191b, q191c⟩ := isOf hZ e182 A119
              obtain ⟨_, _, ⟨T191, L191, k191, n191⟩, -, X191, ⟨Lc191, hQ191, l191, y191, z191⟩, st191⟩ := X182.virtualBack hx (y := (⟨"com/example/foreslot/foreslot/CountsByEnd", "end", "(I)J"⟩ : MethodName)) (z := (⟨"com/example/foreslot/foreslot/CountsByEnd", "end", "(I)J"⟩ : MethodName)) hown (mvT hZ (hw _ (List.mem_of_getElem? (i := 45) rfl))) (mvT hZ (hw _ (List.mem_of_getElem? (i := 46) rfl))) (notFace_of_selects (args := #[]) (mvT hZ (hw _ (List.mem_of_getElem? (i := 48) rfl)))) (mvT hZ (hw _ (List.mem_of_getElem? (i := 48) rfl))) (mvT hZ (hw _ (List.mem_of_getElem? (i := 47) rfl))) (by decide) (backOf (W := 1) (rm_e2_1 l Z a0 hw [] b30 ea ca kE kC y122_0 y122_1 d122_0 d122_1 T119.heap n0 Zs120 A119 Fe119 Fc119 F2_122 V0_122 V1_122) hZ (hw _ (List.mem_of_getElem? (i := 49) rfl)) (hw _ (List.mem_of_getElem? (i := 2) rfl)) (by decide) (by decide)) q191a q191c (g := (mkF m 271 #[.val (.long qa), .second, .val (.long qb), .second, .val (.long qd), .second, .val (.int vc), .val (.int vk), .val (.long qq), .second, .val (.int nk), .val (.long q1), .second, .val (.long q2), .second, .val (.long q3), .second, .val (.long qe1), .second, .val (.long qe2), .second, .val (.long qr), .second, .val (.ref b30), .val (.long tt3), .second, .val (.int (2 : Int32)), .val (.int (2 : Int32))] [(.int (1 : Int32)), (.ref b30), (.ref b30)])) rfl (by rw [hml]; rfl) (Steps.refl _) (argsL := [(.int (1 : Int32))]) (rest := [(.ref b30)]) (lenOf pd_6 rfl) rfl (by show 2 * 0 + _ ≤ _; exact Nat.le_of_eq rfl) (hb hby at_271) (fun _ _ => ⟨rfl, e182, (by decide : 3 + 0 ≤ _), (by decide : 35 + 0 ≤ _)⟩)
              dsimp only [Pt.U, Pt.locs, Pt.cells, Pt.slots] at X191 l191 y191 z191 st191 hQ191
              subst l191 y191 z191
              obtain ⟨zf, rfl, hzf, N191q, e191⟩ := hQ191
              have N191 := Fr.app N182 N191q
              obtain ⟨cq192, kq192, q192a, q192b, q192c⟩ := isOf hZ e191 A119
              obtain ⟨_, _, ⟨T192, L192, k192, n192⟩, -, X192, ⟨Lc192, hQ192, l192, y192, z192⟩, st192⟩ := X191.virtualBack hx (y := (⟨"com/example/foreslot/foreslot/CountsByEnd", "heldUntilAtLatest", "(J)J"⟩ : MethodName)) (z := (⟨"com/example/foreslot/foreslot/CountsByEnd", "heldUntilAtLatest", "(J)J"⟩ : MethodName)) hown (mvT hZ (hw _ (List.mem_of_getElem? (i := 50) rfl))) (mvT hZ (hw _ (List.mem_of_getElem? (i := 51) rfl))) (notFace_of_selects (args := #[]) (mvT hZ (hw _ (List.mem_of_getElem? (i := 53) rfl)))) (mvT hZ (hw _ (List.mem_of_getElem? (i := 53) rfl))) (mvT hZ (hw _ (List.mem_of_getElem? (i := 52) rfl))) (by decide) (backOf (W := 0) (rm_h2 l Z a0 hw [] b30 zf ea ca kE kC y122_0 y122_1 d122_0 d122_1 T119.heap n0 Zs120 A119 Fe119 Fc119 F2_122 V0_122 V1_122 (by omega) (by omega) (by omega) (by omega)) hZ (hw _ (List.mem_of_getElem? (i := 54) rfl)) (hw _ (List.mem_of_getElem? (i := 2) rfl)) (by decide) (by decide)) q192a q192c (g := (mkF m 274 #[.val (.long qa), .second, .val (.long qb), .second, .val (.long qd), .second, .val (.int vc), .val (.int vk), .val (.long qq), .second, .val (.int nk), .val (.long q1), .second, .val (.long q2), .second, .val (.long q3), .second, .val (.long qe1), .second, .val (.long qe2), .second, .val (.long qr), .second, .val (.ref b30), .val (.long tt3), .second, .val (.int (2 : Int32)), .val (.int (2 : Int32))] [(.long zf), (.ref b30)])) rfl (by rw [hml]; rfl) (Steps.refl _) (argsL := [(.long zf)]) (rest := []) (lenOf pd_7 rfl) rfl (by show 2 * 0 + _ ≤ _; exact Nat.le_of_eq rfl) (hb hby at_274) (fun _ _ => ⟨rfl, e191, (by decide : 3 + 0 ≤ _), (by decide : 35 + 0 ≤ _)⟩)
              dsimp only [Pt.U, Pt.locs, Pt.cells, Pt.slots] at X192 l192 y192 z192 st192 hQ192
              subst l192 y192 z192
              obtain ⟨hf, rfl, hhf, N192q, e192⟩ := hQ192
              have N192 := Fr.app N191 N192q
              have hc280_193 : hf.toInt < qr.toInt := by rw [own_fp (x := y122_0.toInt) (by omega), own_fp (x := y122_1.toInt) (by omega)] at hhf; omega
              obtain ⟨fs, hr, hrun, hended, hW, hsame⟩ := X192.leave (v := some (.int (1 : Int32))) (fun h => by rw [Bd.returns] at h; cases h)
              refine ⟨_, _, pre184 _ ?_, hrun, hended, _, _, rfl, ?_, ⟨_, rfl⟩, hW, hsame.mono (by decide) (by decide)⟩
              · refine XS.istore X182.here hx rfl (hb hby at_200) rfl (l' := #[.val (.long qa), .second, .val (.long qb), .second, .val (.long qd), .second, .val (.int vc), .val (.int vk), .val (.long qq), .second, .val (.int nk), .val (.long q1), .second, .val (.long q2), .second, .val (.long q3), .second, .val (.long qe1), .second, .val (.long qe2), .second, .val (.long qr), .second, .val (.ref b30), .val (.long tt3), .second, .val (.int (2 : Int32)), .val (.int (2 : Int32))]) rfl ?_
                refine XS.iload X182.here hx rfl (hb hby at_202) rfl ?_
                refine XS.ifNo X182.here hx rfl (hb hby at_204) rfl (own_if (own_flt (a := (2 : Int32)) (b := (0 : Int32)) (by decide) (by decide) hc204_185).1) ?_
                refine XS.iload X182.here hx rfl (hb hby at_207) rfl ?_
                show Steps p.tables e below (T182.setTop (mkF m 209 #[.val (.long qa), .second, .val (.long qb), .second, .val (.long qd), .second, .val (.int vc), .val (.int vk), .val (.long qq), .second, .val (.int nk), .val (.long q1), .second, .val (.long q2), .second, .val (.long q3), .second, .val (.long qe1), .second, .val (.long qe2), .second, .val (.long qr), .second, .val (.ref b30), .val (.long tt3), .second, .val (.int (2 : Int32)), .val (.int (2 : Int32))] [(.int (2 : Int32))])) _
                refine XS.iload X182.here hx rfl (hb hby at_209) rfl ?_
                refine XS.icmpYes X182.here hx rfl (pc0 := 211) (pc' := 216) rfl (hb hby at_211) rfl (own_flt (a := (2 : Int32)) (b := (2 : Int32)) (by decide) (by decide) hc211_186).2.2.2 (by decide) (by decide) ?_
                refine XS.iload X182.here hx rfl (hb hby at_216) rfl ?_
                refine XS.iload X182.here hx rfl (hb hby at_218) rfl ?_
                refine XS.icmpYes X182.here hx rfl (pc0 := 220) (pc' := 243) rfl (hb hby at_220) rfl (own_flt (a := (2 : Int32)) (b := (2 : Int32)) (by decide) (by decide) hc220_187).2.1 (by decide) (by decide) ?_
                show Steps p.tables e below (T182.setTop (mkF m 243 #[.val (.long qa), .second, .val (.long qb), .second, .val (.long qd), .second, .val (.int vc), .val (.int vk), .val (.long qq), .second, .val (.int nk), .val (.long q1), .second, .val (.long q2), .second, .val (.long q3), .second, .val (.long qe1), .second, .val (.long qe2), .second, .val (.long qr), .second, .val (.ref b30), .val (.long tt3), .second, .val (.int (2 : Int32)), .val (.int (2 : Int32))] [])) _
                refine XS.iload X182.here hx rfl (hb hby at_243) rfl ?_
                refine XS.ifNo X182.here hx rfl (hb hby at_245) rfl (own_if (own_tlt (a := (0 : Int32)) (b := (2 : Int32)) (by decide) (by decide) hc245_188).2.2.2) ?_
                refine XS.lload X182.here hx rfl (hb hby at_248) rfl ?_
                refine XS.lload X182.here hx rfl (hb hby at_250) rfl ?_
                refine XS.lcmp X182.here hx rfl (hb hby at_252) rfl ?_
                show Steps p.tables e below (T182.setTop (mkF m 253 #[.val (.long qa), .second, .val (.long qb), .second, .val (.long qd), .second, .val (.int vc), .val (.int vk), .val (.long qq), .second, .val (.int nk), .val (.long q1), .second, .val (.long q2), .second, .val (.long q3), .second, .val (.long qe1), .second, .val (.long qe2), .second, .val (.long qr), .second, .val (.ref b30), .val (.long tt3), .second, .val (.int (2 : Int32)), .val (.int (2 : Int32))] [(.int (lcmpW tt3 qr))])) _
                refine XS.ifYes X182.here hx rfl (pc0 := 253) (pc' := 258) rfl (hb hby at_253) rfl (own_if (own_tltL (x := tt3) (y := qr) rfl rfl hc253_189).1) (by decide) (by decide) ?_
                refine XS.iload X182.here hx rfl (hb hby at_258) rfl ?_
                refine XS.ifNo X182.here hx rfl (hb hby at_260) rfl (own_if (own_tlt (a := (0 : Int32)) (b := (2 : Int32)) (by decide) (by decide) hc260_190).2.2.2) ?_
                refine XS.aload X182.here hx rfl (hb hby at_263) rfl rfl ?_
                refine XS.aload X182.here hx rfl (hb hby at_265) rfl rfl ?_
                show Steps p.tables e below (T182.setTop (mkF m 267 #[.val (.long qa), .second, .val (.long qb), .second, .val (.long qd), .second, .val (.int vc), .val (.int vk), .val (.long qq), .second, .val (.int nk), .val (.long q1), .second, .val (.long q2), .second, .val (.long q3), .second, .val (.long qe1), .second, .val (.long qe2), .second, .val (.long qr), .second, .val (.ref b30), .val (.long tt3), .second, .val (.int (2 : Int32)), .val (.int (2 : Int32))] [(.ref b30), (.ref b30)])) _
                refine XS.iload X182.here hx rfl (hb hby at_267) rfl ?_
                refine XS.iconst X182.here hx rfl (hb hby at_269) ?_
                refine XS.isub X182.here hx rfl (hb hby at_270) rfl ?_
                refine st191.trans ?_
                refine st192.trans ?_
                show Steps p.tables e below (T192.setTop (mkF m 277 #[.val (.long qa), .second, .val (.long qb), .second, .val (.long qd), .second, .val (.int vc), .val (.int vk), .val (.long qq), .second, .val (.int nk), .val (.long q1), .second, .val (.long q2), .second, .val (.long q3), .second, .val (.long qe1), .second, .val (.long qe2), .second, .val (.long qr), .second, .val (.ref b30), .val (.long tt3), .second, .val (.int (2 : Int32)), .val (.int (2 : Int32))] [(.long hf)])) _
                refine XS.lload X192.here hx rfl (hb hby at_277) rfl ?_
                refine XS.lcmp X192.here hx rfl (hb hby at_279) rfl ?_
                refine XS.ifYes X192.here hx rfl (pc0 := 280) (pc' := 285) rfl (hb hby at_280) rfl (own_if (own_tltL (x := hf) (y := qr) rfl rfl hc280_193).1) (by decide) (by decide) ?_
                refine XS.iconst X192.here hx rfl (hb hby at_285) ?_
                exact retN X192 hx (t := .boolean) Bd.returns (by simp) (hb hby at_286) hr
              · show Q0 Z qa qb qd vc vk qq h0 n0 _ T192.heap _
                rw [e192]
                exact ⟨rfl, N192⟩
      · have own_mark87 := True.intro
        have pre194 : ∀ t, Steps p.tables e below (T84.setTop (mkF m 162 #[.val (.long qa), .second, .val (.long qb), .second, .val (.long qd), .second, .val (.int vc), .val (.int vk), .val (.long qq), .second, .val (.int nk), .val (.long q1), .second, .val (.long q2), .second, .val (.long q3), .second, .val (.long qe1), .second, .val (.long qe2), .second, .val (.long qr), .second, .val (.ref b30), .val (.long tt1), .second, .unset, .unset] [(.long (tt1 + q2))])) t → Steps p.tables e below (s₁.setTop (entryFrame m #[(.long qa), (.long qb), (.long qd), (.int vc), (.int vk), (.long qq)] maxLocals)) t := fun t kt => by
          refine pre88 _ ?_
          refine XS.lload X84.here hx rfl (hb hby at_157) rfl ?_
          show Steps p.tables e below (T84.setTop (mkF m 159 #[.val (.long qa), .second, .val (.long qb), .second, .val (.long qd), .second, .val (.int vc), .val (.int vk), .val (.long qq), .second, .val (.int nk), .val (.long q1), .second, .val (.long q2), .second, .val (.long q3), .second, .val (.long qe1), .second, .val (.long qe2), .second, .val (.long qr), .second, .val (.ref b30), .val (.long tt1), .second, .unset, .unset] [(.long tt1)])) _
          refine XS.lload X84.here hx rfl (hb hby at_159) rfl ?_
          refine XS.ladd X84.here hx rfl (hb hby at_161) rfl ?_
          exact kt
        obtain ⟨tt2, htt2⟩ : ∃ z : Int64, z = (tt1 + q2) := ⟨_, rfl⟩
        have itt2 : tt2.toInt = q1.toInt + q2.toInt := by rw [htt2]; have := rng64 tt1; have := rng64 q2; (first | (have : ((tt1 + q2)).toInt = tt1.toInt + q2.toInt := (by have : (((tt1 + q2)).toInt - (tt1.toInt + q2.toInt)) % 18446744073709551616 = 0 := c_ladd tt1 q2; have := rng64 (tt1 + q2); omega)) | (have : (((tt1 + q2)).toInt - (tt1.toInt + q2.toInt)) % 18446744073709551616 = 0 := c_ladd tt1 q2; have := rng64 (tt1 + q2))); omega
        have pre195 : ∀ t, Steps p.tables e below (T84.setTop (mkF m 162 #[.val (.long qa), .second, .val (.long qb), .second, .val (.long qd), .second, .val (.int vc), .val (.int vk), .val (.long qq), .second, .val (.int nk), .val (.long q1), .second, .val (.long q2), .second, .val (.long q3), .second, .val (.long qe1), .second, .val (.long qe2), .second, .val (.long qr), .second, .val (.ref b30), .val (.long tt1), .second, .unset, .unset] [(.long tt2)])) t → Steps p.tables e below (s₁.setTop (entryFrame m #[(.long qa), (.long qb), (.long qd), (.int vc), (.int vk), (.long qq)] maxLocals)) t := by rw [htt2]; exact pre194
        have pre197 : ∀ t, Steps p.tables e below (T84.setTop (mkF m 167 #[.val (.long qa), .second, .val (.long qb), .second, .val (.long qd), .second, .val (.int vc), .val (.int vk), .val (.long qq), .second, .val (.int nk), .val (.long q1), .second, .val (.long q2), .second, .val (.long q3), .second, .val (.long qe1), .second, .val (.long qe2), .second, .val (.long qr), .second, .val (.ref b30), .val (.long tt2), .second, .unset, .unset] [(.int (3 : Int32)), (.int nk)])) t → Steps p.tables e below (s₁.setTop (entryFrame m #[(.long qa), (.long qb), (.long qd), (.int vc), (.int vk), (.long qq)] maxLocals)) t := fun t kt => by
          refine pre195 _ ?_
          refine XS.lstore X84.here hx rfl (hb hby at_162) rfl (l' := #[.val (.long qa), .second, .val (.long qb), .second, .val (.long qd), .second, .val (.int vc), .val (.int vk), .val (.long qq), .second, .val (.int nk), .val (.long q1), .second, .val (.long q2), .second, .val (.long q3), .second, .val (.long qe1), .second, .val (.long qe2), .second, .val (.long qr), .second, .val (.ref b30), .val (.long tt2), .second, .unset, .unset]) rfl ?_
          refine XS.iload X84.here hx rfl (hb hby at_164) rfl ?_
          refine XS.iconst X84.here hx rfl (hb hby at_166) ?_
          exact kt
        by_cases hc167_196 : nk.toInt < (3 : Int)
        · obtain ⟨cq198, kq198, q198a, q198b, q198c⟩ := isOf hZ rfl A84
          obtain ⟨_, _, ⟨T198, L198, k198, n198⟩, -, X198, ⟨Lc198, hQ198, l198, y198, z198⟩, st198⟩ := X84.virtualBack hx (y := (⟨"com/example/foreslot/foreslot/CountsByEnd", "firstReaching", "(J)I"⟩ : MethodName)) (z := (⟨"com/example/foreslot/foreslot/CountsByEnd", "firstReaching", "(J)I"⟩ : MethodName)) hown (mvT hZ (hw _ (List.mem_of_getElem? (i := 35) rfl))) (mvT hZ (hw _ (List.mem_of_getElem? (i := 36) rfl))) (notFace_of_selects (args := #[]) (mvT hZ (hw _ (List.mem_of_getElem? (i := 38) rfl)))) (mvT hZ (hw _ (List.mem_of_getElem? (i := 38) rfl))) (mvT hZ (hw _ (List.mem_of_getElem? (i := 37) rfl))) (by decide) (backOf (W := 0) (rm_fr2 l Z a0 hw [] b30 qr ea ca kE kC y87_0 y87_1 d87_0 d87_1 T84.heap n0 Zs85 A84 Fe84 Fc84 F2_87 V0_87 V1_87 (by omega) (by omega) (by omega)) hZ (hw _ (List.mem_of_getElem? (i := 39) rfl)) (hw _ (List.mem_of_getElem? (i := 2) rfl)) (by decide) (by decide)) q198a q198c (g := (mkF m 190 #[.val (.long qa), .second, .val (.long qb), .second, .val (.long qd), .second, .val (.int vc), .val (.int vk), .val (.long qq), .second, .val (.int nk), .val (.long q1), .second, .val (.long q2), .second, .val (.long q3), .second, .val (.long qe1), .second, .val (.long qe2), .second, .val (.long qr), .second, .val (.ref b30), .val (.long tt2), .second, .unset, .unset] [(.long qr), (.ref b30)])) rfl (by rw [hml]; rfl) (Steps.refl _) (argsL := [(.long qr)]) (rest := []) (lenOf pd_3 rfl) rfl (by show 2 * 0 + _ ≤ _; exact Nat.le_of_eq rfl) (hb hby at_190) (fun _ _ => ⟨rfl, rfl, (by decide : 3 + 0 ≤ _), (by decide : 35 + 0 ≤ _)⟩)
          dsimp only [Pt.U, Pt.locs, Pt.cells, Pt.slots] at X198 l198 y198 z198 st198 hQ198
          subst l198 y198 z198
          obtain ⟨zr, rfl, hzr, N198q, e198⟩ := hQ198
          have N198 := Fr.app N84 N198q
          have pre199 : ∀ t, Steps p.tables e below (T198.setTop (mkF m 193 #[.val (.long qa), .second, .val (.long qb), .second, .val (.long qd), .second, .val (.int vc), .val (.int vk), .val (.long qq), .second, .val (.int nk), .val (.long q1), .second, .val (.long q2), .second, .val (.long q3), .second, .val (.long qe1), .second, .val (.long qe2), .second, .val (.long qr), .second, .val (.ref b30), .val (.long tt2), .second, .unset, .unset] [(.int zr)])) t → Steps p.tables e below (s₁.setTop (entryFrame m #[(.long qa), (.long qb), (.long qd), (.int vc), (.int vk), (.long qq)] maxLocals)) t := fun t kt => by
            refine pre197 _ ?_
            show Steps p.tables e below (T84.setTop (mkF m 167 #[.val (.long qa), .second, .val (.long qb), .second, .val (.long qd), .second, .val (.int vc), .val (.int vk), .val (.long qq), .second, .val (.int nk), .val (.long q1), .second, .val (.long q2), .second, .val (.long q3), .second, .val (.long qe1), .second, .val (.long qe2), .second, .val (.long qr), .second, .val (.ref b30), .val (.long tt2), .second, .unset, .unset] [(.int (3 : Int32)), (.int nk)])) _
            refine XS.icmpYes X84.here hx rfl (pc0 := 167) (pc' := 186) rfl (hb hby at_167) rfl (own_tlt (a := nk) (b := (3 : Int32)) rfl (by decide) hc167_196).1 (by decide) (by decide) ?_
            refine XS.aload X84.here hx rfl (hb hby at_186) rfl rfl ?_
            refine XS.lload X84.here hx rfl (hb hby at_188) rfl ?_
            refine st198.trans ?_
            exact kt
          rcases hzr with ⟨rfl, hz0⟩ | ⟨rfl, hz0, hz1⟩ | ⟨rfl, hz0⟩
          · have pre200 : ∀ t, Steps p.tables e below (T198.setTop (mkF m 193 #[.val (.long qa), .second, .val (.long qb), .second, .val (.long qd), .second, .val (.int vc), .val (.int vk), .val (.long qq), .second, .val (.int nk), .val (.long q1), .second, .val (.long q2), .second, .val (.long q3), .second, .val (.long qe1), .second, .val (.long qe2), .second, .val (.long qr), .second, .val (.ref b30), .val (.long tt2), .second, .unset, .unset] [(.int (0 : Int32))])) t → Steps p.tables e below (s₁.setTop (entryFrame m #[(.long qa), (.long qb), (.long qd), (.int vc), (.int vk), (.long qq)] maxLocals)) t := pre199
            obtain ⟨cq201, kq201, q201a, q201b, q201c⟩ := isOf hZ e198 A84
            obtain ⟨_, _, ⟨T201, L201, k201, n201⟩, -, X201, ⟨Lc201, hQ201, l201, y201, z201⟩, st201⟩ := X198.virtualBack hx (y := (⟨"com/example/foreslot/foreslot/CountsByEnd", "size", "()I"⟩ : MethodName)) (z := (⟨"com/example/foreslot/foreslot/CountsByEnd", "size", "()I"⟩ : MethodName)) hown (mvT hZ (hw _ (List.mem_of_getElem? (i := 40) rfl))) (mvT hZ (hw _ (List.mem_of_getElem? (i := 41) rfl))) (notFace_of_selects (args := #[]) (mvT hZ (hw _ (List.mem_of_getElem? (i := 43) rfl)))) (mvT hZ (hw _ (List.mem_of_getElem? (i := 43) rfl))) (mvT hZ (hw _ (List.mem_of_getElem? (i := 42) rfl))) (by decide) (backOf (W := 0) (rm_sz2 l Z a0 hw [] b30 ea ca kE kC y87_0 y87_1 d87_0 d87_1 T84.heap n0 Zs85 A84 Fe84 Fc84 F2_87 V0_87 V1_87) hZ (hw _ (List.mem_of_getElem? (i := 44) rfl)) (hw _ (List.mem_of_getElem? (i := 2) rfl)) (by decide) (by decide)) q201a q201c (g := (mkF m 197 #[.val (.long qa), .second, .val (.long qb), .second, .val (.long qd), .second, .val (.int vc), .val (.int vk), .val (.long qq), .second, .val (.int nk), .val (.long q1), .second, .val (.long q2), .second, .val (.long q3), .second, .val (.long qe1), .second, .val (.long qe2), .second, .val (.long qr), .second, .val (.ref b30), .val (.long tt2), .second, .val (.int (0 : Int32)), .unset] [(.ref b30)])) rfl (by rw [hml]; rfl) (Steps.refl _) (argsL := []) (rest := []) (lenOf pd_4 rfl) rfl (by show 2 * 0 + _ ≤ _; exact Nat.le_of_eq rfl) (hb hby at_197) (fun _ _ => ⟨rfl, e198, (by decide : 3 + 0 ≤ _), (by decide : 35 + 0 ≤ _)⟩)
            dsimp only [Pt.U, Pt.locs, Pt.cells, Pt.slots] at X201 l201 y201 z201 st201 hQ201
            subst l201 y201 z201
            obtain ⟨zs, rfl, hzs, N201q, e201⟩ := hQ201
            have N201 := Fr.app N198 N201q
            have pre202 : ∀ t, Steps p.tables e below (T201.setTop (mkF m 200 #[.val (.long qa), .second, .val (.long qb), .second, .val (.long qd), .second, .val (.int vc), .val (.int vk), .val (.long qq), .second, .val (.int nk), .val (.long q1), .second, .val (.long q2), .second, .val (.long q3), .second, .val (.long qe1), .second, .val (.long qe2), .second, .val (.long qr), .second, .val (.ref b30), .val (.long tt2), .second, .val (.int (0 : Int32)), .unset] [(.int zs)])) t → Steps p.tables e below (s₁.setTop (entryFrame m #[(.long qa), (.long qb), (.long qd), (.int vc), (.int vk), (.long qq)] maxLocals)) t := fun t kt => by
              refine pre200 _ ?_
              show Steps p.tables e below (T198.setTop (mkF m 193 #[.val (.long qa), .second, .val (.long qb), .second, .val (.long qd), .second, .val (.int vc), .val (.int vk), .val (.long qq), .second, .val (.int nk), .val (.long q1), .second, .val (.long q2), .second, .val (.long q3), .second, .val (.long qe1), .second, .val (.long qe2), .second, .val (.long qr), .second, .val (.ref b30), .val (.long tt2), .second, .unset, .unset] [(.int (0 : Int32))])) _
              refine XS.istore X198.here hx rfl (hb hby at_193) rfl (l' := #[.val (.long qa), .second, .val (.long qb), .second, .val (.long qd), .second, .val (.int vc), .val (.int vk), .val (.long qq), .second, .val (.int nk), .val (.long q1), .second, .val (.long q2), .second, .val (.long q3), .second, .val (.long qe1), .second, .val (.long qe2), .second, .val (.long qr), .second, .val (.ref b30), .val (.long tt2), .second, .val (.int (0 : Int32)), .unset]) rfl ?_
              refine XS.aload X198.here hx rfl (hb hby at_195) rfl rfl ?_
              refine st201.trans ?_
              exact kt
            subst hzs
            have pre203 : ∀ t, Steps p.tables e below (T201.setTop (mkF m 200 #[.val (.long qa), .second, .val (.long qb), .second, .val (.long qd), .second, .val (.int vc), .val (.int vk), .val (.long qq), .second, .val (.int nk), .val (.long q1), .second, .val (.long q2), .second, .val (.long q3), .second, .val (.long qe1), .second, .val (.long qe2), .second, .val (.long qr), .second, .val (.ref b30), .val (.long tt2), .second, .val (.int (0 : Int32)), .unset] [(.int (2 : Int32))])) t → Steps p.tables e below (s₁.setTop (entryFrame m #[(.long qa), (.long qb), (.long qd), (.int vc), (.int vk), (.long qq)] maxLocals)) t := pre202
            have hc204_204 : ¬ ((0 : Int) < (0 : Int)) := by decide
            have hc211_205 : ¬ ((2 : Int) < (0 : Int)) := by decide
            have hc220_206 : (0 : Int) < (2 : Int) := by decide
            obtain ⟨cq207, kq207, q207a, q207b, q207c⟩ := isOf hZ e201 A84
            obtain ⟨_, _, ⟨T207, L207, k207, n207⟩, -, X207, ⟨Lc207, hQ207, l207, y207, z207⟩, st207⟩ := X201.virtualBack hx (y := (⟨"com/example/foreslot/foreslot/CountsByEnd", "end", "(I)J"⟩ : MethodName)) (z := (⟨"com/example/foreslot/foreslot/CountsByEnd", "end", "(I)J"⟩ : MethodName)) hown (mvT hZ (hw _ (List.mem_of_getElem? (i := 45) rfl))) (mvT hZ (hw _ (List.mem_of_getElem? (i := 46) rfl))) (notFace_of_selects (args := #[]) (mvT hZ (hw _ (List.mem_of_getElem? (i := 48) rfl)))) (mvT hZ (hw _ (List.mem_of_getElem? (i := 48) rfl))) (mvT hZ (hw _ (List.mem_of_getElem? (i := 47) rfl))) (by decide) (backOf (W := 1) (rm_e2_0 l Z a0 hw [] b30 ea ca kE kC y87_0 y87_1 d87_0 d87_1 T84.heap n0 Zs85 A84 Fe84 Fc84 F2_87 V0_87 V1_87) hZ (hw _ (List.mem_of_getElem? (i := 49) rfl)) (hw _ (List.mem_of_getElem? (i := 2) rfl)) (by decide) (by decide)) q207a q207c (g := (mkF m 229 #[.val (.long qa), .second, .val (.long qb), .second, .val (.long qd), .second, .val (.int vc), .val (.int vk), .val (.long qq), .second, .val (.int nk), .val (.long q1), .second, .val (.long q2), .second, .val (.long q3), .second, .val (.long qe1), .second, .val (.long qe2), .second, .val (.long qr), .second, .val (.ref b30), .val (.long tt2), .second, .val (.int (0 : Int32)), .val (.int (2 : Int32))] [(.int (0 : Int32)), (.ref b30), (.ref b30)])) rfl (by rw [hml]; rfl) (Steps.refl _) (argsL := [(.int (0 : Int32))]) (rest := [(.ref b30)]) (lenOf pd_6 rfl) rfl (by show 2 * 0 + _ ≤ _; exact Nat.le_of_eq rfl) (hb hby at_229) (fun _ _ => ⟨rfl, e201, (by decide : 3 + 0 ≤ _), (by decide : 35 + 0 ≤ _)⟩)
            dsimp only [Pt.U, Pt.locs, Pt.cells, Pt.slots] at X207 l207 y207 z207 st207 hQ207
            subst l207 y207 z207
            obtain ⟨ze, rfl, hze, N207q, e207⟩ := hQ207
            have N207 := Fr.app N201 N207q
            obtain ⟨cq208, kq208, q208a, q208b, q208c⟩ := isOf hZ e207 A84
            obtain ⟨_, _, ⟨T208, L208, k208, n208⟩, -, X208, ⟨Lc208, hQ208, l208, y208, z208⟩, st208⟩ := X207.virtualBack hx (y := (⟨"com/example/foreslot/foreslot/CountsByEnd", "heldUntilAtLatest", "(J)J"⟩ : MethodName)) (z := (⟨"com/example/foreslot/foreslot/CountsByEnd", "heldUntilAtLatest", "(J)J"⟩ : MethodName)) hown (mvT hZ (hw _ (List.mem_of_getElem? (i := 50) rfl))) (mvT hZ (hw _ (List.mem_of_getElem? (i := 51) rfl))) (notFace_of_selects (args := #[]) (mvT hZ (hw _ (List.mem_of_getElem? (i := 53) rfl)))) (mvT hZ (hw _ (List.mem_of_getElem? (i := 53) rfl))) (mvT hZ (hw _ (List.mem_of_getElem? (i := 52) rfl))) (by decide) (backOf (W := 0) (rm_h2 l Z a0 hw [] b30 ze ea ca kE kC y87_0 y87_1 d87_0 d87_1 T84.heap n0 Zs85 A84 Fe84 Fc84 F2_87 V0_87 V1_87 (by omega) (by omega) (by omega) (by omega)) hZ (hw _ (List.mem_of_getElem? (i := 54) rfl)) (hw _ (List.mem_of_getElem? (i := 2) rfl)) (by decide) (by decide)) q208a q208c (g := (mkF m 232 #[.val (.long qa), .second, .val (.long qb), .second, .val (.long qd), .second, .val (.int vc), .val (.int vk), .val (.long qq), .second, .val (.int nk), .val (.long q1), .second, .val (.long q2), .second, .val (.long q3), .second, .val (.long qe1), .second, .val (.long qe2), .second, .val (.long qr), .second, .val (.ref b30), .val (.long tt2), .second, .val (.int (0 : Int32)), .val (.int (2 : Int32))] [(.long ze), (.ref b30)])) rfl (by rw [hml]; rfl) (Steps.refl _) (argsL := [(.long ze)]) (rest := []) (lenOf pd_7 rfl) rfl (by show 2 * 0 + _ ≤ _; exact Nat.le_of_eq rfl) (hb hby at_232) (fun _ _ => ⟨rfl, e207, (by decide : 3 + 0 ≤ _), (by decide : 35 + 0 ≤ _)⟩)
            dsimp only [Pt.U, Pt.locs, Pt.cells, Pt.slots] at X208 l208 y208 z208 st208 hQ208
            subst l208 y208 z208
            obtain ⟨hd, rfl, hhd, N208q, e208⟩ := hQ208
            have N208 := Fr.app N207 N208q
            have hc238_209 : ¬ (hd.toInt < qr.toInt) := by rw [own_fp (x := y87_0.toInt) (by omega), own_fn (x := y87_1.toInt) (by omega)] at hhd; omega
            have hc260_210 : ¬ ((0 : Int) < (0 : Int)) := by decide
            obtain ⟨fs, hr, hrun, hended, hW, hsame⟩ := X208.leave (v := some (.int (1 : Int32))) (fun h => by rw [Bd.returns] at h; cases h)
            refine ⟨_, _, pre203 _ ?_, hrun, hended, _, _, rfl, ?_, ⟨_, rfl⟩, hW, hsame.mono (by decide) (by decide)⟩
            · refine XS.istore X201.here hx rfl (hb hby at_200) rfl (l' := #[.val (.long qa), .second, .val (.long qb), .second, .val (.long qd), .second, .val (.int vc), .val (.int vk), .val (.long qq), .second, .val (.int nk), .val (.long q1), .second, .val (.long q2), .second, .val (.long q3), .second, .val (.long qe1), .second, .val (.long qe2), .second, .val (.long qr), .second, .val (.ref b30), .val (.long tt2), .second, .val (.int (0 : Int32)), .val (.int (2 : Int32))]) rfl ?_
              refine XS.iload X201.here hx rfl (hb hby at_202) rfl ?_
              show Steps p.tables e below (T201.setTop (mkF m 204 #[.val (.long qa), .second, .val (.long qb), .second, .val (.long qd), .second, .val (.int vc), .val (.int vk), .val (.long qq), .second, .val (.int nk), .val (.long q1), .second, .val (.long q2), .second, .val (.long q3), .second, .val (.long qe1), .second, .val (.long qe2), .second, .val (.long qr), .second, .val (.ref b30), .val (.long tt2), .second, .val (.int (0 : Int32)), .val (.int (2 : Int32))] [(.int (0 : Int32))])) _
              refine XS.ifNo X201.here hx rfl (hb hby at_204) rfl (own_if (own_flt (a := (0 : Int32)) (b := (0 : Int32)) (by decide) (by decide) hc204_204).1) ?_
              refine XS.iload X201.here hx rfl (hb hby at_207) rfl ?_
              refine XS.iload X201.here hx rfl (hb hby at_209) rfl ?_
              refine XS.icmpYes X201.here hx rfl (pc0 := 211) (pc' := 216) rfl (hb hby at_211) rfl (own_flt (a := (2 : Int32)) (b := (0 : Int32)) (by decide) (by decide) hc211_205).2.2.2 (by decide) (by decide) ?_
              refine XS.iload X201.here hx rfl (hb hby at_216) rfl ?_
              show Steps p.tables e below (T201.setTop (mkF m 218 #[.val (.long qa), .second, .val (.long qb), .second, .val (.long qd), .second, .val (.int vc), .val (.int vk), .val (.long qq), .second, .val (.int nk), .val (.long q1), .second, .val (.long q2), .second, .val (.long q3), .second, .val (.long qe1), .second, .val (.long qe2), .second, .val (.long qr), .second, .val (.ref b30), .val (.long tt2), .second, .val (.int (0 : Int32)), .val (.int (2 : Int32))] [(.int (0 : Int32))])) _
              refine XS.iload X201.here hx rfl (hb hby at_218) rfl ?_
              refine XS.icmpNo X201.here hx rfl (hb hby at_220) rfl (own_tlt (a := (0 : Int32)) (b := (2 : Int32)) (by decide) (by decide) hc220_206).2.1 ?_
              refine XS.aload X201.here hx rfl (hb hby at_223) rfl rfl ?_
              refine XS.aload X201.here hx rfl (hb hby at_225) rfl rfl ?_
              refine XS.iload X201.here hx rfl (hb hby at_227) rfl ?_
              show Steps p.tables e below (T201.setTop (mkF m 229 #[.val (.long qa), .second, .val (.long qb), .second, .val (.long qd), .second, .val (.int vc), .val (.int vk), .val (.long qq), .second, .val (.int nk), .val (.long q1), .second, .val (.long q2), .second, .val (.long q3), .second, .val (.long qe1), .second, .val (.long qe2), .second, .val (.long qr), .second, .val (.ref b30), .val (.long tt2), .second, .val (.int (0 : Int32)), .val (.int (2 : Int32))] [(.int (0 : Int32)), (.ref b30), (.ref b30)])) _
              refine st207.trans ?_
              refine st208.trans ?_
              refine XS.lload X208.here hx rfl (hb hby at_235) rfl ?_
              refine XS.lcmp X208.here hx rfl (hb hby at_237) rfl ?_
              refine XS.ifYes X208.here hx rfl (pc0 := 238) (pc' := 258) rfl (hb hby at_238) rfl (own_if (own_fltL (x := hd) (y := qr) rfl rfl hc238_209).2) (by decide) (by decide) ?_
              show Steps p.tables e below (T208.setTop (mkF m 258 #[.val (.long qa), .second, .val (.long qb), .second, .val (.long qd), .second, .val (.int vc), .val (.int vk), .val (.long qq), .second, .val (.int nk), .val (.long q1), .second, .val (.long q2), .second, .val (.long q3), .second, .val (.long qe1), .second, .val (.long qe2), .second, .val (.long qr), .second, .val (.ref b30), .val (.long tt2), .second, .val (.int (0 : Int32)), .val (.int (2 : Int32))] [])) _
              refine XS.iload X208.here hx rfl (hb hby at_258) rfl ?_
              refine XS.ifYes X208.here hx rfl (pc0 := 260) (pc' := 285) rfl (hb hby at_260) rfl (own_if (own_flt (a := (0 : Int32)) (b := (0 : Int32)) (by decide) (by decide) hc260_210).2.2.2) (by decide) (by decide) ?_
              refine XS.iconst X208.here hx rfl (hb hby at_285) ?_
              exact retN X208 hx (t := .boolean) Bd.returns (by simp) (hb hby at_286) hr
            · show Q0 Z qa qb qd vc vk qq h0 n0 _ T208.heap _
              rw [e208]
              exact ⟨rfl, N208⟩
          · have pre211 : ∀ t, Steps p.tables e below (T198.setTop (mkF m 193 #[.val (.long qa), .second, .val (.long qb), .second, .val (.long qd), .second, .val (.int vc), .val (.int vk), .val (.long qq), .second, .val (.int nk), .val (.long q1), .second, .val (.long q2), .second, .val (.long q3), .second, .val (.long qe1), .second, .val (.long qe2), .second, .val (.long qr), .second, .val (.ref b30), .val (.long tt2), .second, .unset, .unset] [(.int (1 : Int32))])) t → Steps p.tables e below (s₁.setTop (entryFrame m #[(.long qa), (.long qb), (.long qd), (.int vc), (.int vk), (.long qq)] maxLocals)) t := pre199
            obtain ⟨cq212, kq212, q212a, q212b, q212c⟩ := isOf hZ e198 A84
            obtain ⟨_, _, ⟨T212, L212, k212, n212⟩, -, X212, ⟨Lc212, hQ212, l212, y212, z212⟩, st212⟩ := X198.virtualBack hx (y := (⟨"com/example/foreslot/foreslot/CountsByEnd", "size", "()I"⟩ : MethodName)) (z := (⟨"com/example/foreslot/foreslot/CountsByEnd", "size", "()I"⟩ : MethodName)) hown (mvT hZ (hw _ (List.mem_of_getElem? (i := 40) rfl))) (mvT hZ (hw _ (List.mem_of_getElem? (i := 41) rfl))) (notFace_of_selects (args := #[]) (mvT hZ (hw _ (List.mem_of_getElem? (i := 43) rfl)))) (mvT hZ (hw _ (List.mem_of_getElem? (i := 43) rfl))) (mvT hZ (hw _ (List.mem_of_getElem? (i := 42) rfl))) (by decide) (backOf (W := 0) (rm_sz2 l Z a0 hw [] b30 ea ca kE kC y87_0 y87_1 d87_0 d87_1 T84.heap n0 Zs85 A84 Fe84 Fc84 F2_87 V0_87 V1_87) hZ (hw _ (List.mem_of_getElem? (i := 44) rfl)) (hw _ (List.mem_of_getElem? (i := 2) rfl)) (by decide) (by decide)) q212a q212c (g := (mkF m 197 #[.val (.long qa), .second, .val (.long qb), .second, .val (.long qd), .second, .val (.int vc), .val (.int vk), .val (.long qq), .second, .val (.int nk), .val (.long q1), .second, .val (.long q2), .second, .val (.long q3), .second, .val (.long qe1), .second, .val (.long qe2), .second, .val (.long qr), .second, .val (.ref b30), .val (.long tt2), .second, .val (.int (1 : Int32)), .unset] [(.ref b30)])) rfl (by rw [hml]; rfl) (Steps.refl _) (argsL := []) (rest := []) (lenOf pd_4 rfl) rfl (by show 2 * 0 + _ ≤ _; exact Nat.le_of_eq rfl) (hb hby at_197) (fun _ _ => ⟨rfl, e198, (by decide : 3 + 0 ≤ _), (by decide : 35 + 0 ≤ _)⟩)
            dsimp only [Pt.U, Pt.locs, Pt.cells, Pt.slots] at X212 l212 y212 z212 st212 hQ212
            subst l212 y212 z212
            obtain ⟨zs, rfl, hzs, N212q, e212⟩ := hQ212
            have N212 := Fr.app N198 N212q
            have pre213 : ∀ t, Steps p.tables e below (T212.setTop (mkF m 200 #[.val (.long qa), .second, .val (.long qb), .second, .val (.long qd), .second, .val (.int vc), .val (.int vk), .val (.long qq), .second, .val (.int nk), .val (.long q1), .second, .val (.long q2), .second, .val (.long q3), .second, .val (.long qe1), .second, .val (.long qe2), .second, .val (.long qr), .second, .val (.ref b30), .val (.long tt2), .second, .val (.int (1 : Int32)), .unset] [(.int zs)])) t → Steps p.tables e below (s₁.setTop (entryFrame m #[(.long qa), (.long qb), (.long qd), (.int vc), (.int vk), (.long qq)] maxLocals)) t := fun t kt => by
              refine pre211 _ ?_
              show Steps p.tables e below (T198.setTop (mkF m 193 #[.val (.long qa), .second, .val (.long qb), .second, .val (.long qd), .second, .val (.int vc), .val (.int vk), .val (.long qq), .second, .val (.int nk), .val (.long q1), .second, .val (.long q2), .second, .val (.long q3), .second, .val (.long qe1), .second, .val (.long qe2), .second, .val (.long qr), .second, .val (.ref b30), .val (.long tt2), .second, .unset, .unset] [(.int (1 : Int32))])) _
              refine XS.istore X198.here hx rfl (hb hby at_193) rfl (l' := #[.val (.long qa), .second, .val (.long qb), .second, .val (.long qd), .second, .val (.int vc), .val (.int vk), .val (.long qq), .second, .val (.int nk), .val (.long q1), .second, .val (.long q2), .second, .val (.long q3), .second, .val (.long qe1), .second, .val (.long qe2), .second, .val (.long qr), .second, .val (.ref b30), .val (.long tt2), .second, .val (.int (1 : Int32)), .unset]) rfl ?_
              refine XS.aload X198.here hx rfl (hb hby at_195) rfl rfl ?_
              refine st212.trans ?_
              exact kt
            subst hzs
            have pre214 : ∀ t, Steps p.tables e below (T212.setTop (mkF m 200 #[.val (.long qa), .second, .val (.long qb), .second, .val (.long qd), .second, .val (.int vc), .val (.int vk), .val (.long qq), .second, .val (.int nk), .val (.long q1), .second, .val (.long q2), .second, .val (.long q3), .second, .val (.long qe1), .second, .val (.long qe2), .second, .val (.long qr), .second, .val (.ref b30), .val (.long tt2), .second, .val (.int (1 : Int32)), .unset] [(.int (2 : Int32))])) t → Steps p.tables e below (s₁.setTop (entryFrame m #[(.long qa), (.long qb), (.long qd), (.int vc), (.int vk), (.long qq)] maxLocals)) t := pre213
            have hc204_215 : ¬ ((1 : Int) < (0 : Int)) := by decide
            have hc211_216 : ¬ ((2 : Int) < (1 : Int)) := by decide
            have hc220_217 : (1 : Int) < (2 : Int) := by decide
            obtain ⟨cq218, kq218, q218a, q218b, q218c⟩ := isOf hZ e212 A84
            obtain ⟨_, _, ⟨T218, L218, k218, n218⟩, -, X218, ⟨Lc218, hQ218, l218, y218, z218⟩, st218⟩ := X212.virtualBack hx (y := (⟨"com/example/foreslot/foreslot/CountsByEnd", "end", "(I)J"⟩ : MethodName)) (z := (⟨"com/example/foreslot/foreslot/CountsByEnd", "end", "(I)J"⟩ : MethodName)) hown (mvT hZ (hw _ (List.mem_of_getElem? (i := 45) rfl))) (mvT hZ (hw _ (List.mem_of_getElem? (i := 46) rfl))) (notFace_of_selects (args := #[]) (mvT hZ (hw _ (List.mem_of_getElem? (i := 48) rfl)))) (mvT hZ (hw _ (List.mem_of_getElem? (i := 48) rfl))) (mvT hZ (hw _ (List.mem_of_getElem? (i := 47) rfl))) (by decide) (backOf (W := 1) (rm_e2_1 l Z a0 hw [] b30 ea ca kE kC y87_0 y87_1 d87_0 d87_1 T84.heap n0 Zs85 A84 Fe84 Fc84 F2_87 V0_87 V1_87) hZ (hw _ (List.mem_of_getElem? (i := 49) rfl)) (hw _ (List.mem_of_getElem? (i := 2) rfl)) (by decide) (by decide)) q218a q218c (g := (mkF m 229 #[.val (.long qa), .second, .val (.long qb), .second, .val (.long qd), .second, .val (.int vc), .val (.int vk), .val (.long qq), .second, .val (.int nk), .val (.long q1), .second, .val (.long q2), .second, .val (.long q3), .second, .val (.long qe1), .second, .val (.long qe2), .second, .val (.long qr), .second, .val (.ref b30), .val (.long tt2), .second, .val (.int (1 : Int32)), .val (.int (2 : Int32))] [(.int (1 : Int32)), (.ref b30), (.ref b30)])) rfl (by rw [hml]; rfl) (Steps.refl _) (argsL := [(.int (1 : Int32))]) (rest := [(.ref b30)]) (lenOf pd_6 rfl) rfl (by show 2 * 0 + _ ≤ _; exact Nat.le_of_eq rfl) (hb hby at_229) (fun _ _ => ⟨rfl, e212, (by decide : 3 + 0 ≤ _), (by decide : 35 + 0 ≤ _)⟩)
            dsimp only [Pt.U, Pt.locs, Pt.cells, Pt.slots] at X218 l218 y218 z218 st218 hQ218
            subst l218 y218 z218
            obtain ⟨ze, rfl, hze, N218q, e218⟩ := hQ218
            have N218 := Fr.app N212 N218q
            obtain ⟨cq219, kq219, q219a, q219b, q219c⟩ := isOf hZ e218 A84
            obtain ⟨_, _, ⟨T219, L219, k219, n219⟩, -, X219, ⟨Lc219, hQ219, l219, y219, z219⟩, st219⟩ := X218.virtualBack hx (y := (⟨"com/example/foreslot/foreslot/CountsByEnd", "heldUntilAtLatest", "(J)J"⟩ : MethodName)) (z := (⟨"com/example/foreslot/foreslot/CountsByEnd", "heldUntilAtLatest", "(J)J"⟩ : MethodName)) hown (mvT hZ (hw _ (List.mem_of_getElem? (i := 50) rfl))) (mvT hZ (hw _ (List.mem_of_getElem? (i := 51) rfl))) (notFace_of_selects (args := #[]) (mvT hZ (hw _ (List.mem_of_getElem? (i := 53) rfl)))) (mvT hZ (hw _ (List.mem_of_getElem? (i := 53) rfl))) (mvT hZ (hw _ (List.mem_of_getElem? (i := 52) rfl))) (by decide) (backOf (W := 0) (rm_h2 l Z a0 hw [] b30 ze ea ca kE kC y87_0 y87_1 d87_0 d87_1 T84.heap n0 Zs85 A84 Fe84 Fc84 F2_87 V0_87 V1_87 (by omega) (by omega) (by omega) (by omega)) hZ (hw _ (List.mem_of_getElem? (i := 54) rfl)) (hw _ (List.mem_of_getElem? (i := 2) rfl)) (by decide) (by decide)) q219a q219c (g := (mkF m 232 #[.val (.long qa), .second, .val (.long qb), .second, .val (.long qd), .second, .val (.int vc), .val (.int vk), .val (.long qq), .second, .val (.int nk), .val (.long q1), .second, .val (.long q2), .second, .val (.long q3), .second, .val (.long qe1), .second, .val (.long qe2), .second, .val (.long qr), .second, .val (.ref b30), .val (.long tt2), .second, .val (.int (1 : Int32)), .val (.int (2 : Int32))] [(.long ze), (.ref b30)])) rfl (by rw [hml]; rfl) (Steps.refl _) (argsL := [(.long ze)]) (rest := []) (lenOf pd_7 rfl) rfl (by show 2 * 0 + _ ≤ _; exact Nat.le_of_eq rfl) (hb hby at_232) (fun _ _ => ⟨rfl, e218, (by decide : 3 + 0 ≤ _), (by decide : 35 + 0 ≤ _)⟩)
            dsimp only [Pt.U, Pt.locs, Pt.cells, Pt.slots] at X219 l219 y219 z219 st219 hQ219
            subst l219 y219 z219
            obtain ⟨hd, rfl, hhd, N219q, e219⟩ := hQ219
            have N219 := Fr.app N218 N219q
            have hc238_220 : ¬ (hd.toInt < qr.toInt) := by rw [own_fp (x := y87_0.toInt) (by omega), own_fp (x := y87_1.toInt) (by omega)] at hhd; omega
            have hc260_221 : (0 : Int) < (1 : Int) := by decide
            obtain ⟨cq222, kq222, q222a, q222b, q222c⟩ := isOf hZ e219 A84
            obtain ⟨_, _, ⟨T222, L222, k222, n222⟩, -, X222, ⟨Lc222, hQ222, l222, y222, z222⟩, st222⟩ := X219.virtualBack hx (y := (⟨"com/example/foreslot/foreslot/CountsByEnd", "end", "(I)J"⟩ : MethodName)) (z := (⟨"com/example/foreslot/foreslot/CountsByEnd", "end", "(I)J"⟩ : MethodName)) hown (mvT hZ (hw _ (List.mem_of_getElem? (i := 45) rfl))) (mvT hZ (hw _ (List.mem_of_getElem? (i := 46) rfl))) (notFace_of_selects (args := #[]) (mvT hZ (hw _ (List.mem_of_getElem? (i := 48) rfl)))) (mvT hZ (hw _ (List.mem_of_getElem? (i := 48) rfl))) (mvT hZ (hw _ (List.mem_of_getElem? (i := 47) rfl))) (by decide) (backOf (W := 1) (rm_e2_0 l Z a0 hw [] b30 ea ca kE kC y87_0 y87_1 d87_0 d87_1 T84.heap n0 Zs85 A84 Fe84 Fc84 F2_87 V0_87 V1_87) hZ (hw _ (List.mem_of_getElem? (i := 49) rfl)) (hw _ (List.mem_of_getElem? (i := 2) rfl)) (by decide) (by decide)) q222a q222c (g := (mkF m 271 #[.val (.long qa), .second, .val (.long qb), .second, .val (.long qd), .second, .val (.int vc), .val (.int vk), .val (.long qq), .second, .val (.int nk), .val (.long q1), .second, .val (.long q2), .second, .val (.long q3), .second, .val (.long qe1), .second, .val (.long qe2), .second, .val (.long qr), .second, .val (.ref b30), .val (.long tt2), .second, .val (.int (1 : Int32)), .val (.int (2 : Int32))] [(.int (0 : Int32)), (.ref b30), (.ref b30)])) rfl (by rw [hml]; rfl) (Steps.refl _) (argsL := [(.int (0 : Int32))]) (rest := [(.ref b30)]) (lenOf pd_6 rfl) rfl (by show 2 * 0 + _ ≤ _; exact Nat.le_of_eq rfl) (hb hby at_271) (fun _ _ => ⟨rfl, e219, (by decide : 3 + 0 ≤ _), (by decide : 35 + 0 ≤ _)⟩)
            dsimp only [Pt.U, Pt.locs, Pt.cells, Pt.slots] at X222 l222 y222 z222 st222 hQ222
            subst l222 y222 z222
            obtain ⟨zf, rfl, hzf, N222q, e222⟩ := hQ222
            have N222 := Fr.app N219 N222q
            obtain ⟨cq223, kq223, q223a, q223b, q223c⟩ := isOf hZ e222 A84
            obtain ⟨_, _, ⟨T223, L223, k223, n223⟩, -, X223, ⟨Lc223, hQ223, l223, y223, z223⟩, st223⟩ := X222.virtualBack hx (y := (⟨"com/example/foreslot/foreslot/CountsByEnd", "heldUntilAtLatest", "(J)J"⟩ : MethodName)) (z := (⟨"com/example/foreslot/foreslot/CountsByEnd", "heldUntilAtLatest", "(J)J"⟩ : MethodName)) hown (mvT hZ (hw _ (List.mem_of_getElem? (i := 50) rfl))) (mvT hZ (hw _ (List.mem_of_getElem? (i := 51) rfl))) (notFace_of_selects (args := #[]) (mvT hZ (hw _ (List.mem_of_getElem? (i := 53) rfl)))) (mvT hZ (hw _ (List.mem_of_getElem? (i := 53) rfl))) (mvT hZ (hw _ (List.mem_of_getElem? (i := 52) rfl))) (by decide) (backOf (W := 0) (rm_h2 l Z a0 hw [] b30 zf ea ca kE kC y87_0 y87_1 d87_0 d87_1 T84.heap n0 Zs85 A84 Fe84 Fc84 F2_87 V0_87 V1_87 (by omega) (by omega) (by omega) (by omega)) hZ (hw _ (List.mem_of_getElem? (i := 54) rfl)) (hw _ (List.mem_of_getElem? (i := 2) rfl)) (by decide) (by decide)) q223a q223c (g := (mkF m 274 #[.val (.long qa), .second, .val (.long qb), .second, .val (.long qd), .second, .val (.int vc), .val (.int vk), .val (.long qq), .second, .val (.int nk), .val (.long q1), .second, .val (.long q2), .second, .val (.long q3), .second, .val (.long qe1), .second, .val (.long qe2), .second, .val (.long qr), .second, .val (.ref b30), .val (.long tt2), .second, .val (.int (1 : Int32)), .val (.int (2 : Int32))] [(.long zf), (.ref b30)])) rfl (by rw [hml]; rfl) (Steps.refl _) (argsL := [(.long zf)]) (rest := []) (lenOf pd_7 rfl) rfl (by show 2 * 0 + _ ≤ _; exact Nat.le_of_eq rfl) (hb hby at_274) (fun _ _ => ⟨rfl, e222, (by decide : 3 + 0 ≤ _), (by decide : 35 + 0 ≤ _)⟩)
            dsimp only [Pt.U, Pt.locs, Pt.cells, Pt.slots] at X223 l223 y223 z223 st223 hQ223
            subst l223 y223 z223
            obtain ⟨hf, rfl, hhf, N223q, e223⟩ := hQ223
            have N223 := Fr.app N222 N223q
            have hc280_224 : hf.toInt < qr.toInt := by rw [own_fp (x := y87_0.toInt) (by omega), own_fn (x := y87_1.toInt) (by omega)] at hhf; omega
            obtain ⟨fs, hr, hrun, hended, hW, hsame⟩ := X223.leave (v := some (.int (1 : Int32))) (fun h => by rw [Bd.returns] at h; cases h)
            refine ⟨_, _, pre214 _ ?_, hrun, hended, _, _, rfl, ?_, ⟨_, rfl⟩, hW, hsame.mono (by decide) (by decide)⟩
            · refine XS.istore X212.here hx rfl (hb hby at_200) rfl (l' := #[.val (.long qa), .second, .val (.long qb), .second, .val (.long qd), .second, .val (.int vc), .val (.int vk), .val (.long qq), .second, .val (.int nk), .val (.long q1), .second, .val (.long q2), .second, .val (.long q3), .second, .val (.long qe1), .second, .val (.long qe2), .second, .val (.long qr), .second, .val (.ref b30), .val (.long tt2), .second, .val (.int (1 : Int32)), .val (.int (2 : Int32))]) rfl ?_
              refine XS.iload X212.here hx rfl (hb hby at_202) rfl ?_
              show Steps p.tables e below (T212.setTop (mkF m 204 #[.val (.long qa), .second, .val (.long qb), .second, .val (.long qd), .second, .val (.int vc), .val (.int vk), .val (.long qq), .second, .val (.int nk), .val (.long q1), .second, .val (.long q2), .second, .val (.long q3), .second, .val (.long qe1), .second, .val (.long qe2), .second, .val (.long qr), .second, .val (.ref b30), .val (.long tt2), .second, .val (.int (1 : Int32)), .val (.int (2 : Int32))] [(.int (1 : Int32))])) _
              refine XS.ifNo X212.here hx rfl (hb hby at_204) rfl (own_if (own_flt (a := (1 : Int32)) (b := (0 : Int32)) (by decide) (by decide) hc204_215).1) ?_
              refine XS.iload X212.here hx rfl (hb hby at_207) rfl ?_
              refine XS.iload X212.here hx rfl (hb hby at_209) rfl ?_
              refine XS.icmpYes X212.here hx rfl (pc0 := 211) (pc' := 216) rfl (hb hby at_211) rfl (own_flt (a := (2 : Int32)) (b := (1 : Int32)) (by decide) (by decide) hc211_216).2.2.2 (by decide) (by decide) ?_
              refine XS.iload X212.here hx rfl (hb hby at_216) rfl ?_
              show Steps p.tables e below (T212.setTop (mkF m 218 #[.val (.long qa), .second, .val (.long qb), .second, .val (.long qd), .second, .val (.int vc), .val (.int vk), .val (.long qq), .second, .val (.int nk), .val (.long q1), .second, .val (.long q2), .second, .val (.long q3), .second, .val (.long qe1), .second, .val (.long qe2), .second, .val (.long qr), .second, .val (.ref b30), .val (.long tt2), .second, .val (.int (1 : Int32)), .val (.int (2 : Int32))] [(.int (1 : Int32))])) _
              refine XS.iload X212.here hx rfl (hb hby at_218) rfl ?_
              refine XS.icmpNo X212.here hx rfl (hb hby at_220) rfl (own_tlt (a := (1 : Int32)) (b := (2 : Int32)) (by decide) (by decide) hc220_217).2.1 ?_
              refine XS.aload X212.here hx rfl (hb hby at_223) rfl rfl ?_
              refine XS.aload X212.here hx rfl (hb hby at_225) rfl rfl ?_
              refine XS.iload X212.here hx rfl (hb hby at_227) rfl ?_
              show Steps p.tables e below (T212.setTop (mkF m 229 #[.val (.long qa), .second, .val (.long qb), .second, .val (.long qd), .second, .val (.int vc), .val (.int vk), .val (.long qq), .second, .val (.int nk), .val (.long q1), .second, .val (.long q2), .second, .val (.long q3), .second, .val (.long qe1), .second, .val (.long qe2), .second, .val (.long qr), .second, .val (.ref b30), .val (.long tt2), .second, .val (.int (1 : Int32)), .val (.int (2 : Int32))] [(.int (1 : Int32)), (.ref b30), (.ref b30)])) _
              refine st218.trans ?_
              refine st219.trans ?_
              refine XS.lload X219.here hx rfl (hb hby at_235) rfl ?_
              refine XS.lcmp X219.here hx rfl (hb hby at_237) rfl ?_
              refine XS.ifYes X219.here hx rfl (pc0 := 238) (pc' := 258) rfl (hb hby at_238) rfl (own_if (own_fltL (x := hd) (y := qr) rfl rfl hc238_220).2) (by decide) (by decide) ?_
              show Steps p.tables e below (T219.setTop (mkF m 258 #[.val (.long qa), .second, .val (.long qb), .second, .val (.long qd), .second, .val (.int vc), .val (.int vk), .val (.long qq), .second, .val (.int nk), .val (.long q1), .second, .val (.long q2), .second, .val (.long q3), .second, .val (.long qe1), .second, .val (.long qe2), .second, .val (.long qr), .second, .val (.ref b30), .val (.long tt2), .second, .val (.int (1 : Int32)), .val (.int (2 : Int32))] [])) _
              refine XS.iload X219.here hx rfl (hb hby at_258) rfl ?_
              refine XS.ifNo X219.here hx rfl (hb hby at_260) rfl (own_if (own_tlt (a := (0 : Int32)) (b := (1 : Int32)) (by decide) (by decide) hc260_221).2.2.2) ?_
              refine XS.aload X219.here hx rfl (hb hby at_263) rfl rfl ?_
              refine XS.aload X219.here hx rfl (hb hby at_265) rfl rfl ?_
              refine XS.iload X219.here hx rfl (hb hby at_267) rfl ?_
              show Steps p.tables e below (T219.setTop (mkF m 269 #[.val (.long qa), .second, .val (.long qb), .second, .val (.long qd), .second, .val (.int vc), .val (.int vk), .val (.long qq), .second, .val (.int nk), .val (.long q1), .second, .val (.long q2), .second, .val (.long q3), .second, .val (.long qe1), .second, .val (.long qe2), .second, .val (.long qr), .second, .val (.ref b30), .val (.long tt2), .second, .val (.int (1 : Int32)), .val (.int (2 : Int32))] [(.int (1 : Int32)), (.ref b30), (.ref b30)])) _
              refine XS.iconst X219.here hx rfl (hb hby at_269) ?_
              refine XS.isub X219.here hx rfl (hb hby at_270) rfl ?_
              refine st222.trans ?_
              refine st223.trans ?_
              refine XS.lload X223.here hx rfl (hb hby at_277) rfl ?_
              show Steps p.tables e below (T223.setTop (mkF m 279 #[.val (.long qa), .second, .val (.long qb), .second, .val (.long qd), .second, .val (.int vc), .val (.int vk), .val (.long qq), .second, .val (.int nk), .val (.long q1), .second, .val (.long q2), .second, .val (.long q3), .second, .val (.long qe1), .second, .val (.long qe2), .second, .val (.long qr), .second, .val (.ref b30), .val (.long tt2), .second, .val (.int (1 : Int32)), .val (.int (2 : Int32))] [(.long qr), (.long hf)])) _
              refine XS.lcmp X223.here hx rfl (hb hby at_279) rfl ?_
              refine XS.ifYes X223.here hx rfl (pc0 := 280) (pc' := 285) rfl (hb hby at_280) rfl (own_if (own_tltL (x := hf) (y := qr) rfl rfl hc280_224).1) (by decide) (by decide) ?_
              refine XS.iconst X223.here hx rfl (hb hby at_285) ?_
              exact retN X223 hx (t := .boolean) Bd.returns (by simp) (hb hby at_286) hr
            · show Q0 Z qa qb qd vc vk qq h0 n0 _ T223.heap _
              rw [e223]
              exact ⟨rfl, N223⟩
          · have pre225 : ∀ t, Steps p.tables e below (T198.setTop (mkF m 193 #[.val (.long qa), .second, .val (.long qb), .second, .val (.long qd), .second, .val (.int vc), .val (.int vk), .val (.long qq), .second, .val (.int nk), .val (.long q1), .second, .val (.long q2), .second, .val (.long q3), .second, .val (.long qe1), .second, .val (.long qe2), .second, .val (.long qr), .second, .val (.ref b30), .val (.long tt2), .second, .unset, .unset] [(.int (2 : Int32))])) t → Steps p.tables e below (s₁.setTop (entryFrame m #[(.long qa), (.long qb), (.long qd), (.int vc), (.int vk), (.long qq)] maxLocals)) t := pre199
            obtain ⟨cq226, kq226, q226a, q226b, q226c⟩ := isOf hZ e198 A84
            obtain ⟨_, _, ⟨T226, L226, k226, n226⟩, -, X226, ⟨Lc226, hQ226, l226, y226, z226⟩, st226⟩ := X198.virtualBack hx (y := (⟨"com/example/foreslot/foreslot/CountsByEnd", "size", "()I"⟩ : MethodName)) (z := (⟨"com/example/foreslot/foreslot/CountsByEnd", "size", "()I"⟩ : MethodName)) hown (mvT hZ (hw _ (List.mem_of_getElem? (i := 40) rfl))) (mvT hZ (hw _ (List.mem_of_getElem? (i := 41) rfl))) (notFace_of_selects (args := #[]) (mvT hZ (hw _ (List.mem_of_getElem? (i := 43) rfl)))) (mvT hZ (hw _ (List.mem_of_getElem? (i := 43) rfl))) (mvT hZ (hw _ (List.mem_of_getElem? (i := 42) rfl))) (by decide) (backOf (W := 0) (rm_sz2 l Z a0 hw [] b30 ea ca kE kC y87_0 y87_1 d87_0 d87_1 T84.heap n0 Zs85 A84 Fe84 Fc84 F2_87 V0_87 V1_87) hZ (hw _ (List.mem_of_getElem? (i := 44) rfl)) (hw _ (List.mem_of_getElem? (i := 2) rfl)) (by decide) (by decide)) q226a q226c (g := (mkF m 197 #[.val (.long qa), .second, .val (.long qb), .second, .val (.long qd), .second, .val (.int vc), .val (.int vk), .val (.long qq), .second, .val (.int nk), .val (.long q1), .second, .val (.long q2), .second, .val (.long q3), .second, .val (.long qe1), .second, .val (.long qe2), .second, .val (.long qr), .second, .val (.ref b30), .val (.long tt2), .second, .val (.int (2 : Int32)), .unset] [(.ref b30)])) rfl (by rw [hml]; rfl) (Steps.refl _) (argsL := []) (rest := []) (lenOf pd_4 rfl) rfl (by show 2 * 0 + _ ≤ _; exact Nat.le_of_eq rfl) (hb hby at_197) (fun _ _ => ⟨rfl, e198, (by decide : 3 + 0 ≤ _), (by decide : 35 + 0 ≤ _)⟩)
            dsimp only [Pt.U, Pt.locs, Pt.cells, Pt.slots] at X226 l226 y226 z226 st226 hQ226
            subst l226 y226 z226
            obtain ⟨zs, rfl, hzs, N226q, e226⟩ := hQ226
            have N226 := Fr.app N198 N226q
            have pre227 : ∀ t, Steps p.tables e below (T226.setTop (mkF m 200 #[.val (.long qa), .second, .val (.long qb), .second, .val (.long qd), .second, .val (.int vc), .val (.int vk), .val (.long qq), .second, .val (.int nk), .val (.long q1), .second, .val (.long q2), .second, .val (.long q3), .second, .val (.long qe1), .second, .val (.long qe2), .second, .val (.long qr), .second, .val (.ref b30), .val (.long tt2), .second, .val (.int (2 : Int32)), .unset] [(.int zs)])) t → Steps p.tables e below (s₁.setTop (entryFrame m #[(.long qa), (.long qb), (.long qd), (.int vc), (.int vk), (.long qq)] maxLocals)) t := fun t kt => by
              refine pre225 _ ?_
              show Steps p.tables e below (T198.setTop (mkF m 193 #[.val (.long qa), .second, .val (.long qb), .second, .val (.long qd), .second, .val (.int vc), .val (.int vk), .val (.long qq), .second, .val (.int nk), .val (.long q1), .second, .val (.long q2), .second, .val (.long q3), .second, .val (.long qe1), .second, .val (.long qe2), .second, .val (.long qr), .second, .val (.ref b30), .val (.long tt2), .second, .unset, .unset] [(.int (2 : Int32))])) _
              refine XS.istore X198.here hx rfl (hb hby at_193) rfl (l' := #[.val (.long qa), .second, .val (.long qb), .second, .val (.long qd), .second, .val (.int vc), .val (.int vk), .val (.long qq), .second, .val (.int nk), .val (.long q1), .second, .val (.long q2), .second, .val (.long q3), .second, .val (.long qe1), .second, .val (.long qe2), .second, .val (.long qr), .second, .val (.ref b30), .val (.long tt2), .second, .val (.int (2 : Int32)), .unset]) rfl ?_
              refine XS.aload X198.here hx rfl (hb hby at_195) rfl rfl ?_
              refine st226.trans ?_
              exact kt
            subst hzs
            have pre228 : ∀ t, Steps p.tables e below (T226.setTop (mkF m 200 #[.val (.long qa), .second, .val (.long qb), .second, .val (.long qd), .second, .val (.int vc), .val (.int vk), .val (.long qq), .second, .val (.int nk), .val (.long q1), .second, .val (.long q2), .second, .val (.long q3), .second, .val (.long qe1), .second, .val (.long qe2), .second, .val (.long qr), .second, .val (.ref b30), .val (.long tt2), .second, .val (.int (2 : Int32)), .unset] [(.int (2 : Int32))])) t → Steps p.tables e below (s₁.setTop (entryFrame m #[(.long qa), (.long qb), (.long qd), (.int vc), (.int vk), (.long qq)] maxLocals)) t := pre227
            have hc204_229 : ¬ ((2 : Int) < (0 : Int)) := by decide
            have hc211_230 : ¬ ((2 : Int) < (2 : Int)) := by decide
            have hc220_231 : ¬ ((2 : Int) < (2 : Int)) := by decide
            have hc245_232 : (0 : Int) < (2 : Int) := by decide
            have hc253_233 : tt2.toInt < qr.toInt := by omega
            have hc260_234 : (0 : Int) < (2 : Int) := by decide
            obtain ⟨cq235, kq235, q235a, q235b, q235c⟩ := isOf hZ e226 A84
            obtain ⟨_, _, ⟨T235, L235, k235, n235⟩, -, X235, ⟨Lc235, hQ235, l235, y235, z235⟩, st235⟩ := X226.virtualBack hx (y := (⟨"com/example/foreslot/foreslot/CountsByEnd", "end", "(I)J"⟩ : MethodName)) (z := (⟨"com/example/foreslot/foreslot/CountsByEnd", "end", "(I)J"⟩ : MethodName)) hown (mvT hZ (hw _ (List.mem_of_getElem? (i := 45) rfl))) (mvT hZ (hw _ (List.mem_of_getElem? (i := 46) rfl))) (notFace_of_selects (args := #[]) (mvT hZ (hw _ (List.mem_of_getElem? (i := 48) rfl)))) (mvT hZ (hw _ (List.mem_of_getElem? (i := 48) rfl))) (mvT hZ (hw _ (List.mem_of_getElem? (i := 47) rfl))) (by decide) (backOf (W := 1) (rm_e2_1 l Z a0 hw [] b30 ea ca kE kC y87_0 y87_1 d87_0 d87_1 T84.heap n0 Zs85 A84 Fe84 Fc84 F2_87 V0_87 V1_87) hZ (hw _ (List.mem_of_getElem? (i := 49) rfl)) (hw _ (List.mem_of_getElem? (i := 2) rfl)) (by decide) (by decide)) q235a q235c (g := (mkF m 271 #[.val (.long qa), .second, .val (.long qb), .second, .val (.long qd), .second, .val (.int vc), .val (.int vk), .val (.long qq), .second, .val (.int nk), .val (.long q1), .second, .val (.long q2), .second, .val (.long q3), .second, .val (.long qe1), .second, .val (.long qe2), .second, .val (.long qr), .second, .val (.ref b30), .val (.long tt2), .second, .val (.int (2 : Int32)), .val (.int (2 : Int32))] [(.int (1 : Int32)), (.ref b30), (.ref b30)])) rfl (by rw [hml]; rfl) (Steps.refl _) (argsL := [(.int (1 : Int32))]) (rest := [(.ref b30)]) (lenOf pd_6 rfl) rfl (by show 2 * 0 + _ ≤ _; exact Nat.le_of_eq rfl) (hb hby at_271) (fun _ _ => ⟨rfl, e226, (by decide : 3 + 0 ≤ _), (by decide : 35 + 0 ≤ _)⟩)
            dsimp only [Pt.U, Pt.locs, Pt.cells, Pt.slots] at X235 l235 y235 z235 st235 hQ235
            subst l235 y235 z235
            obtain ⟨zf, rfl, hzf, N235q, e235⟩ := hQ235
            have N235 := Fr.app N226 N235q
            obtain ⟨cq236, kq236, q236a, q236b, q236c⟩ := isOf hZ e235 A84
            obtain ⟨_, _, ⟨T236, L236, k236, n236⟩, -, X236, ⟨Lc236, hQ236, l236, y236, z236⟩, st236⟩ := X235.virtualBack hx (y := (⟨"com/example/foreslot/foreslot/CountsByEnd", "heldUntilAtLatest", "(J)J"⟩ : MethodName)) (z := (⟨"com/example/foreslot/foreslot/CountsByEnd", "heldUntilAtLatest", "(J)J"⟩ : MethodName)) hown (mvT hZ (hw _ (List.mem_of_getElem? (i := 50) rfl))) (mvT hZ (hw _ (List.mem_of_getElem? (i := 51) rfl))) (notFace_of_selects (args := #[]) (mvT hZ (hw _ (List.mem_of_getElem? (i := 53) rfl)))) (mvT hZ (hw _ (List.mem_of_getElem? (i := 53) rfl))) (mvT hZ (hw _ (List.mem_of_getElem? (i := 52) rfl))) (by decide) (backOf (W := 0) (rm_h2 l Z a0 hw [] b30 zf ea ca kE kC y87_0 y87_1 d87_0 d87_1 T84.heap n0 Zs85 A84 Fe84 Fc84 F2_87 V0_87 V1_87 (by omega) (by omega) (by omega) (by omega)) hZ (hw _ (List.mem_of_getElem? (i := 54) rfl)) (hw _ (List.mem_of_getElem? (i := 2) rfl)) (by decide) (by decide)) q236a q236c (g := (mkF m 274 #[.val (.long qa), .second, .val (.long qb), .second, .val (.long qd), .second, .val (.int vc), .val (.int vk), .val (.long qq), .second, .val (.int nk), .val (.long q1), .second, .val (.long q2), .second, .val (.long q3), .second, .val (.long qe1), .second, .val (.long qe2), .second, .val (.long qr), .second, .val (.ref b30), .val (.long tt2), .second, .val (.int (2 : Int32)), .val (.int (2 : Int32))] [(.long zf), (.ref b30)])) rfl (by rw [hml]; rfl) (Steps.refl _) (argsL := [(.long zf)]) (rest := []) (lenOf pd_7 rfl) rfl (by show 2 * 0 + _ ≤ _; exact Nat.le_of_eq rfl) (hb hby at_274) (fun _ _ => ⟨rfl, e235, (by decide : 3 + 0 ≤ _), (by decide : 35 + 0 ≤ _)⟩)
            dsimp only [Pt.U, Pt.locs, Pt.cells, Pt.slots] at X236 l236 y236 z236 st236 hQ236
            subst l236 y236 z236
            obtain ⟨hf, rfl, hhf, N236q, e236⟩ := hQ236
            have N236 := Fr.app N235 N236q
            have hc280_237 : hf.toInt < qr.toInt := by rw [own_fp (x := y87_0.toInt) (by omega), own_fp (x := y87_1.toInt) (by omega)] at hhf; omega
            obtain ⟨fs, hr, hrun, hended, hW, hsame⟩ := X236.leave (v := some (.int (1 : Int32))) (fun h => by rw [Bd.returns] at h; cases h)
            refine ⟨_, _, pre228 _ ?_, hrun, hended, _, _, rfl, ?_, ⟨_, rfl⟩, hW, hsame.mono (by decide) (by decide)⟩
            · refine XS.istore X226.here hx rfl (hb hby at_200) rfl (l' := #[.val (.long qa), .second, .val (.long qb), .second, .val (.long qd), .second, .val (.int vc), .val (.int vk), .val (.long qq), .second, .val (.int nk), .val (.long q1), .second, .val (.long q2), .second, .val (.long q3), .second, .val (.long qe1), .second, .val (.long qe2), .second, .val (.long qr), .second, .val (.ref b30), .val (.long tt2), .second, .val (.int (2 : Int32)), .val (.int (2 : Int32))]) rfl ?_
              refine XS.iload X226.here hx rfl (hb hby at_202) rfl ?_
              show Steps p.tables e below (T226.setTop (mkF m 204 #[.val (.long qa), .second, .val (.long qb), .second, .val (.long qd), .second, .val (.int vc), .val (.int vk), .val (.long qq), .second, .val (.int nk), .val (.long q1), .second, .val (.long q2), .second, .val (.long q3), .second, .val (.long qe1), .second, .val (.long qe2), .second, .val (.long qr), .second, .val (.ref b30), .val (.long tt2), .second, .val (.int (2 : Int32)), .val (.int (2 : Int32))] [(.int (2 : Int32))])) _
              refine XS.ifNo X226.here hx rfl (hb hby at_204) rfl (own_if (own_flt (a := (2 : Int32)) (b := (0 : Int32)) (by decide) (by decide) hc204_229).1) ?_
              refine XS.iload X226.here hx rfl (hb hby at_207) rfl ?_
              refine XS.iload X226.here hx rfl (hb hby at_209) rfl ?_
              refine XS.icmpYes X226.here hx rfl (pc0 := 211) (pc' := 216) rfl (hb hby at_211) rfl (own_flt (a := (2 : Int32)) (b := (2 : Int32)) (by decide) (by decide) hc211_230).2.2.2 (by decide) (by decide) ?_
              refine XS.iload X226.here hx rfl (hb hby at_216) rfl ?_
              show Steps p.tables e below (T226.setTop (mkF m 218 #[.val (.long qa), .second, .val (.long qb), .second, .val (.long qd), .second, .val (.int vc), .val (.int vk), .val (.long qq), .second, .val (.int nk), .val (.long q1), .second, .val (.long q2), .second, .val (.long q3), .second, .val (.long qe1), .second, .val (.long qe2), .second, .val (.long qr), .second, .val (.ref b30), .val (.long tt2), .second, .val (.int (2 : Int32)), .val (.int (2 : Int32))] [(.int (2 : Int32))])) _
              refine XS.iload X226.here hx rfl (hb hby at_218) rfl ?_
              refine XS.icmpYes X226.here hx rfl (pc0 := 220) (pc' := 243) rfl (hb hby at_220) rfl (own_flt (a := (2 : Int32)) (b := (2 : Int32)) (by decide) (by decide) hc220_231).2.1 (by decide) (by decide) ?_
              refine XS.iload X226.here hx rfl (hb hby at_243) rfl ?_
              refine XS.ifNo X226.here hx rfl (hb hby at_245) rfl (own_if (own_tlt (a := (0 : Int32)) (b := (2 : Int32)) (by decide) (by decide) hc245_232).2.2.2) ?_
              refine XS.lload X226.here hx rfl (hb hby at_248) rfl ?_
              show Steps p.tables e below (T226.setTop (mkF m 250 #[.val (.long qa), .second, .val (.long qb), .second, .val (.long qd), .second, .val (.int vc), .val (.int vk), .val (.long qq), .second, .val (.int nk), .val (.long q1), .second, .val (.long q2), .second, .val (.long q3), .second, .val (.long qe1), .second, .val (.long qe2), .second, .val (.long qr), .second, .val (.ref b30), .val (.long tt2), .second, .val (.int (2 : Int32)), .val (.int (2 : Int32))] [(.long tt2)])) _
              refine XS.lload X226.here hx rfl (hb hby at_250) rfl ?_
              refine XS.lcmp X226.here hx rfl (hb hby at_252) rfl ?_
              refine XS.ifYes X226.here hx rfl (pc0 := 253) (pc' := 258) rfl (hb hby at_253) rfl (own_if (own_tltL (x := tt2) (y := qr) rfl rfl hc253_233).1) (by decide) (by decide) ?_
              refine XS.iload X226.here hx rfl (hb hby at_258) rfl ?_
              refine XS.ifNo X226.here hx rfl (hb hby at_260) rfl (own_if (own_tlt (a := (0 : Int32)) (b := (2 : Int32)) (by decide) (by decide) hc260_234).2.2.2) ?_
              show Steps p.tables e below (T226.setTop (mkF m 263 #[.val (.long qa), .second, .val (.long qb), .second, .val (.long qd), .second, .val (.int vc), .val (.int vk), .val (.long qq), .second, .val (.int nk), .val (.long q1), .second, .val (.long q2), .second, .val (.long q3), .second, .val (.long qe1), .second, .val (.long qe2), .second, .val (.long qr), .second, .val (.ref b30), .val (.long tt2), .second, .val (.int (2 : Int32)), .val (.int (2 : Int32))] [])) _
              refine XS.aload X226.here hx rfl (hb hby at_263) rfl rfl ?_
              refine XS.aload X226.here hx rfl (hb hby at_265) rfl rfl ?_
              refine XS.iload X226.here hx rfl (hb hby at_267) rfl ?_
              refine XS.iconst X226.here hx rfl (hb hby at_269) ?_
              refine XS.isub X226.here hx rfl (hb hby at_270) rfl ?_
              show Steps p.tables e below (T226.setTop (mkF m 271 #[.val (.long qa), .second, .val (.long qb), .second, .val (.long qd), .second, .val (.int vc), .val (.int vk), .val (.long qq), .second, .val (.int nk), .val (.long q1), .second, .val (.long q2), .second, .val (.long q3), .second, .val (.long qe1), .second, .val (.long qe2), .second, .val (.long qr), .second, .val (.ref b30), .val (.long tt2), .second, .val (.int (2 : Int32)), .val (.int (2 : Int32))] [(.int (1 : Int32)), (.ref b30), (.ref b30)])) _
              refine st235.trans ?_
              refine st236.trans ?_
              refine XS.lload X236.here hx rfl (hb hby at_277) rfl ?_
              refine XS.lcmp X236.here hx rfl (hb hby at_279) rfl ?_
              refine XS.ifYes X236.here hx rfl (pc0 := 280) (pc' := 285) rfl (hb hby at_280) rfl (own_if (own_tltL (x := hf) (y := qr) rfl rfl hc280_237).1) (by decide) (by decide) ?_
              show Steps p.tables e below (T236.setTop (mkF m 285 #[.val (.long qa), .second, .val (.long qb), .second, .val (.long qd), .second, .val (.int vc), .val (.int vk), .val (.long qq), .second, .val (.int nk), .val (.long q1), .second, .val (.long q2), .second, .val (.long q3), .second, .val (.long qe1), .second, .val (.long qe2), .second, .val (.long qr), .second, .val (.ref b30), .val (.long tt2), .second, .val (.int (2 : Int32)), .val (.int (2 : Int32))] [])) _
              refine XS.iconst X236.here hx rfl (hb hby at_285) ?_
              exact retN X236 hx (t := .boolean) Bd.returns (by simp) (hb hby at_286) hr
            · show Q0 Z qa qb qd vc vk qq h0 n0 _ T236.heap _
              rw [e236]
              exact ⟨rfl, N236⟩
        · obtain ⟨cq238, kq238, q238a, q238b, q238c⟩ := isOf hZ rfl A84
          obtain ⟨_, _, ⟨T238, L238, k238, n238⟩, -, X238, ⟨Lc238, hQ238, l238, y238, z238⟩, st238⟩ := X84.virtualBack hx (y := (⟨"com/example/foreslot/foreslot/CountsByEnd", "add", "(JJ)V"⟩ : MethodName)) (z := (⟨"com/example/foreslot/foreslot/CountsByEnd", "add", "(JJ)V"⟩ : MethodName)) hown (mvT hZ (hw _ (List.mem_of_getElem? (i := 14) rfl))) (mvT hZ (hw _ (List.mem_of_getElem? (i := 15) rfl))) (notFace_of_selects (args := #[]) (mvT hZ (hw _ (List.mem_of_getElem? (i := 17) rfl)))) (mvT hZ (hw _ (List.mem_of_getElem? (i := 17) rfl))) (mvT hZ (hw _ (List.mem_of_getElem? (i := 16) rfl))) (by decide) (backOf (W := 0) (rm_add2 l Z a0 hw [] b30 qe2 q3 ea ca kE kC y87_0 y87_1 d87_0 d87_1 T84.heap n0 Zs85 A84 Fe84 Fc84 F2_87 V0_87 V1_87 g_b30 ge gc nae nac nec (by omega) (by omega) (by omega) (by omega) (by omega)) hZ (hw _ (List.mem_of_getElem? (i := 18) rfl)) (hw _ (List.mem_of_getElem? (i := 2) rfl)) (by decide) (by decide)) q238a q238c (g := (mkF m 176 #[.val (.long qa), .second, .val (.long qb), .second, .val (.long qd), .second, .val (.int vc), .val (.int vk), .val (.long qq), .second, .val (.int nk), .val (.long q1), .second, .val (.long q2), .second, .val (.long q3), .second, .val (.long qe1), .second, .val (.long qe2), .second, .val (.long qr), .second, .val (.ref b30), .val (.long tt2), .second, .unset, .unset] [(.long q3), (.long qe2), (.ref b30)])) rfl (by rw [hml]; rfl) (Steps.refl _) (argsL := [(.long qe2), (.long q3)]) (rest := []) (lenOf pd_5 rfl) rfl (by show 2 * 0 + _ ≤ _; exact Nat.le_of_eq rfl) (hb hby at_176) (fun _ _ => ⟨rfl, rfl, (by decide : 3 + 0 ≤ _), (by decide : 35 + 0 ≤ _)⟩)
          dsimp only [Pt.U, Pt.locs, Pt.cells, Pt.slots] at X238 l238 y238 z238 st238 hQ238
          subst l238 y238 z238
          obtain ⟨rfl, N238q, K238, A238, Fe238, Fc238, hO238⟩ := hQ238
          have N238 := Fr.app N84 N238q
          have Zs239 : n0 ≤ T238.heap.size := Nat.le_trans Zs85 K238.1
          have pre242 : ∀ t, Steps p.tables e below (T238.setTop (mkF m 179 #[.val (.long qa), .second, .val (.long qb), .second, .val (.long qd), .second, .val (.int vc), .val (.int vk), .val (.long qq), .second, .val (.int nk), .val (.long q1), .second, .val (.long q2), .second, .val (.long q3), .second, .val (.long qe1), .second, .val (.long qe2), .second, .val (.long qr), .second, .val (.ref b30), .val (.long tt2), .second, .unset, .unset] [])) t → Steps p.tables e below (s₁.setTop (entryFrame m #[(.long qa), (.long qb), (.long qd), (.int vc), (.int vk), (.long qq)] maxLocals)) t := fun t kt => by
            refine pre197 _ ?_
            show Steps p.tables e below (T84.setTop (mkF m 167 #[.val (.long qa), .second, .val (.long qb), .second, .val (.long qd), .second, .val (.int vc), .val (.int vk), .val (.long qq), .second, .val (.int nk), .val (.long q1), .second, .val (.long q2), .second, .val (.long q3), .second, .val (.long qe1), .second, .val (.long qe2), .second, .val (.long qr), .second, .val (.ref b30), .val (.long tt2), .second, .unset, .unset] [(.int (3 : Int32)), (.int nk)])) _
            refine XS.icmpNo X84.here hx rfl (hb hby at_167) rfl (own_flt (a := nk) (b := (3 : Int32)) rfl (by decide) hc167_196).1 ?_
            refine XS.aload X84.here hx rfl (hb hby at_170) rfl rfl ?_
            refine XS.lload X84.here hx rfl (hb hby at_172) rfl ?_
            refine XS.lload X84.here hx rfl (hb hby at_174) rfl ?_
            show Steps p.tables e below (T84.setTop (mkF m 176 #[.val (.long qa), .second, .val (.long qb), .second, .val (.long qd), .second, .val (.int vc), .val (.int vk), .val (.long qq), .second, .val (.int nk), .val (.long q1), .second, .val (.long q2), .second, .val (.long q3), .second, .val (.long qe1), .second, .val (.long qe2), .second, .val (.long qr), .second, .val (.ref b30), .val (.long tt2), .second, .unset, .unset] [(.long q3), (.long qe2), (.ref b30)])) _
            refine st238.trans ?_
            exact kt
          rcases hO238 with ⟨y240_0, y240_1, d240_0, d240_1, F2_240, V0_240, V1_240, o240_0, p240_0, p240_1, t_240, hs_240⟩ | ⟨y241_0, y241_1, y241_2, d241_0, d241_1, d241_2, F2_241, V0_241, V1_241, o241_0, o241_1, p241_0, p241_1, p241_2, t_241, hs_241⟩
          · have own_mark240 := True.intro
            have pre243 : ∀ t, Steps p.tables e below (T238.setTop (mkF m 184 #[.val (.long qa), .second, .val (.long qb), .second, .val (.long qd), .second, .val (.int vc), .val (.int vk), .val (.long qq), .second, .val (.int nk), .val (.long q1), .second, .val (.long q2), .second, .val (.long q3), .second, .val (.long qe1), .second, .val (.long qe2), .second, .val (.long qr), .second, .val (.ref b30), .val (.long tt2), .second, .unset, .unset] [(.long (tt2 + q3))])) t → Steps p.tables e below (s₁.setTop (entryFrame m #[(.long qa), (.long qb), (.long qd), (.int vc), (.int vk), (.long qq)] maxLocals)) t := fun t kt => by
              refine pre242 _ ?_
              refine XS.lload X238.here hx rfl (hb hby at_179) rfl ?_
              refine XS.lload X238.here hx rfl (hb hby at_181) rfl ?_
              refine XS.ladd X238.here hx rfl (hb hby at_183) rfl ?_
              exact kt
            obtain ⟨tt3, htt3⟩ : ∃ z : Int64, z = (tt2 + q3) := ⟨_, rfl⟩
            have itt3 : tt3.toInt = q1.toInt + q2.toInt + q3.toInt := by rw [htt3]; have := rng64 tt2; have := rng64 q3; (first | (have : ((tt2 + q3)).toInt = tt2.toInt + q3.toInt := (by have : (((tt2 + q3)).toInt - (tt2.toInt + q3.toInt)) % 18446744073709551616 = 0 := c_ladd tt2 q3; have := rng64 (tt2 + q3); omega)) | (have : (((tt2 + q3)).toInt - (tt2.toInt + q3.toInt)) % 18446744073709551616 = 0 := c_ladd tt2 q3; have := rng64 (tt2 + q3))); omega
            have pre244 : ∀ t, Steps p.tables e below (T238.setTop (mkF m 184 #[.val (.long qa), .second, .val (.long qb), .second, .val (.long qd), .second, .val (.int vc), .val (.int vk), .val (.long qq), .second, .val (.int nk), .val (.long q1), .second, .val (.long q2), .second, .val (.long q3), .second, .val (.long qe1), .second, .val (.long qe2), .second, .val (.long qr), .second, .val (.ref b30), .val (.long tt2), .second, .unset, .unset] [(.long tt3)])) t → Steps p.tables e below (s₁.setTop (entryFrame m #[(.long qa), (.long qb), (.long qd), (.int vc), (.int vk), (.long qq)] maxLocals)) t := by rw [htt3]; exact pre243
            obtain ⟨cq245, kq245, q245a, q245b, q245c⟩ := isOf hZ rfl A238
            obtain ⟨_, _, ⟨T245, L245, k245, n245⟩, -, X245, ⟨Lc245, hQ245, l245, y245, z245⟩, st245⟩ := X238.virtualBack hx (y := (⟨"com/example/foreslot/foreslot/CountsByEnd", "firstReaching", "(J)I"⟩ : MethodName)) (z := (⟨"com/example/foreslot/foreslot/CountsByEnd", "firstReaching", "(J)I"⟩ : MethodName)) hown (mvT hZ (hw _ (List.mem_of_getElem? (i := 35) rfl))) (mvT hZ (hw _ (List.mem_of_getElem? (i := 36) rfl))) (notFace_of_selects (args := #[]) (mvT hZ (hw _ (List.mem_of_getElem? (i := 38) rfl)))) (mvT hZ (hw _ (List.mem_of_getElem? (i := 38) rfl))) (mvT hZ (hw _ (List.mem_of_getElem? (i := 37) rfl))) (by decide) (backOf (W := 0) (rm_fr2 l Z a0 hw [] b30 qr ea ca kE kC y240_0 y240_1 d240_0 d240_1 T238.heap n0 Zs239 A238 Fe238 Fc238 F2_240 V0_240 V1_240 (by omega) (by omega) (by omega)) hZ (hw _ (List.mem_of_getElem? (i := 39) rfl)) (hw _ (List.mem_of_getElem? (i := 2) rfl)) (by decide) (by decide)) q245a q245c (g := (mkF m 190 #[.val (.long qa), .second, .val (.long qb), .second, .val (.long qd), .second, .val (.int vc), .val (.int vk), .val (.long qq), .second, .val (.int nk), .val (.long q1), .second, .val (.long q2), .second, .val (.long q3), .second, .val (.long qe1), .second, .val (.long qe2), .second, .val (.long qr), .second, .val (.ref b30), .val (.long tt3), .second, .unset, .unset] [(.long qr), (.ref b30)])) rfl (by rw [hml]; rfl) (Steps.refl _) (argsL := [(.long qr)]) (rest := []) (lenOf pd_3 rfl) rfl (by show 2 * 0 + _ ≤ _; exact Nat.le_of_eq rfl) (hb hby at_190) (fun _ _ => ⟨rfl, rfl, (by decide : 3 + 0 ≤ _), (by decide : 35 + 0 ≤ _)⟩)
            dsimp only [Pt.U, Pt.locs, Pt.cells, Pt.slots] at X245 l245 y245 z245 st245 hQ245
            subst l245 y245 z245
            obtain ⟨zr, rfl, hzr, N245q, e245⟩ := hQ245
            have N245 := Fr.app N238 N245q
            have pre246 : ∀ t, Steps p.tables e below (T245.setTop (mkF m 193 #[.val (.long qa), .second, .val (.long qb), .second, .val (.long qd), .second, .val (.int vc), .val (.int vk), .val (.long qq), .second, .val (.int nk), .val (.long q1), .second, .val (.long q2), .second, .val (.long q3), .second, .val (.long qe1), .second, .val (.long qe2), .second, .val (.long qr), .second, .val (.ref b30), .val (.long tt3), .second, .unset, .unset] [(.int zr)])) t → Steps p.tables e below (s₁.setTop (entryFrame m #[(.long qa), (.long qb), (.long qd), (.int vc), (.int vk), (.long qq)] maxLocals)) t := fun t kt => by
              refine pre244 _ ?_
              refine XS.lstore X238.here hx rfl (hb hby at_184) rfl (l' := #[.val (.long qa), .second, .val (.long qb), .second, .val (.long qd), .second, .val (.int vc), .val (.int vk), .val (.long qq), .second, .val (.int nk), .val (.long q1), .second, .val (.long q2), .second, .val (.long q3), .second, .val (.long qe1), .second, .val (.long qe2), .second, .val (.long qr), .second, .val (.ref b30), .val (.long tt3), .second, .unset, .unset]) rfl ?_
              show Steps p.tables e below (T238.setTop (mkF m 186 #[.val (.long qa), .second, .val (.long qb), .second, .val (.long qd), .second, .val (.int vc), .val (.int vk), .val (.long qq), .second, .val (.int nk), .val (.long q1), .second, .val (.long q2), .second, .val (.long q3), .second, .val (.long qe1), .second, .val (.long qe2), .second, .val (.long qr), .second, .val (.ref b30), .val (.long tt3), .second, .unset, .unset] [])) _
              refine XS.aload X238.here hx rfl (hb hby at_186) rfl rfl ?_
              refine XS.lload X238.here hx rfl (hb hby at_188) rfl ?_
              refine st245.trans ?_
              exact kt
            rcases hzr with ⟨rfl, hz0⟩ | ⟨rfl, hz0, hz1⟩ | ⟨rfl, hz0⟩
            · have pre247 : ∀ t, Steps p.tables e below (T245.setTop (mkF m 193 #[.val (.long qa), .second, .val (.long qb), .second, .val (.long qd), .second, .val (.int vc), .val (.int vk), .val (.long qq), .second, .val (.int nk), .val (.long q1), .second, .val (.long q2), .second, .val (.long q3), .second, .val (.long qe1), .second, .val (.long qe2), .second, .val (.long qr), .second, .val (.ref b30), .val (.long tt3), .second, .unset, .unset] [(.int (0 : Int32))])) t → Steps p.tables e below (s₁.setTop (entryFrame m #[(.long qa), (.long qb), (.long qd), (.int vc), (.int vk), (.long qq)] maxLocals)) t := pre246
              obtain ⟨cq248, kq248, q248a, q248b, q248c⟩ := isOf hZ e245 A238
              obtain ⟨_, _, ⟨T248, L248, k248, n248⟩, -, X248, ⟨Lc248, hQ248, l248, y248, z248⟩, st248⟩ := X245.virtualBack hx (y := (⟨"com/example/foreslot/foreslot/CountsByEnd", "size", "()I"⟩ : MethodName)) (z := (⟨"com/example/foreslot/foreslot/CountsByEnd", "size", "()I"⟩ : MethodName)) hown (mvT hZ (hw _ (List.mem_of_getElem? (i := 40) rfl))) (mvT hZ (hw _ (List.mem_of_getElem? (i := 41) rfl))) (notFace_of_selects (args := #[]) (mvT hZ (hw _ (List.mem_of_getElem? (i := 43) rfl)))) (mvT hZ (hw _ (List.mem_of_getElem? (i := 43) rfl))) (mvT hZ (hw _ (List.mem_of_getElem? (i := 42) rfl))) (by decide) (backOf (W := 0) (rm_sz2 l Z a0 hw [] b30 ea ca kE kC y240_0 y240_1 d240_0 d240_1 T238.heap n0 Zs239 A238 Fe238 Fc238 F2_240 V0_240 V1_240) hZ (hw _ (List.mem_of_getElem? (i := 44) rfl)) (hw _ (List.mem_of_getElem? (i := 2) rfl)) (by decide) (by decide)) q248a q248c (g := (mkF m 197 #[.val (.long qa), .second, .val (.long qb), .second, .val (.long qd), .second, .val (.int vc), .val (.int vk), .val (.long qq), .second, .val (.int nk), .val (.long q1), .second, .val (.long q2), .second, .val (.long q3), .second, .val (.long qe1), .second, .val (.long qe2), .second, .val (.long qr), .second, .val (.ref b30), .val (.long tt3), .second, .val (.int (0 : Int32)), .unset] [(.ref b30)])) rfl (by rw [hml]; rfl) (Steps.refl _) (argsL := []) (rest := []) (lenOf pd_4 rfl) rfl (by show 2 * 0 + _ ≤ _; exact Nat.le_of_eq rfl) (hb hby at_197) (fun _ _ => ⟨rfl, e245, (by decide : 3 + 0 ≤ _), (by decide : 35 + 0 ≤ _)⟩)
              dsimp only [Pt.U, Pt.locs, Pt.cells, Pt.slots] at X248 l248 y248 z248 st248 hQ248
              subst l248 y248 z248
              obtain ⟨zs, rfl, hzs, N248q, e248⟩ := hQ248
              have N248 := Fr.app N245 N248q
              have pre249 : ∀ t, Steps p.tables e below (T248.setTop (mkF m 200 #[.val (.long qa), .second, .val (.long qb), .second, .val (.long qd), .second, .val (.int vc), .val (.int vk), .val (.long qq), .second, .val (.int nk), .val (.long q1), .second, .val (.long q2), .second, .val (.long q3), .second, .val (.long qe1), .second, .val (.long qe2), .second, .val (.long qr), .second, .val (.ref b30), .val (.long tt3), .second, .val (.int (0 : Int32)), .unset] [(.int zs)])) t → Steps p.tables e below (s₁.setTop (entryFrame m #[(.long qa), (.long qb), (.long qd), (.int vc), (.int vk), (.long qq)] maxLocals)) t := fun t kt => by
                refine pre247 _ ?_
                refine XS.istore X245.here hx rfl (hb hby at_193) rfl (l' := #[.val (.long qa), .second, .val (.long qb), .second, .val (.long qd), .second, .val (.int vc), .val (.int vk), .val (.long qq), .second, .val (.int nk), .val (.long q1), .second, .val (.long q2), .second, .val (.long q3), .second, .val (.long qe1), .second, .val (.long qe2), .second, .val (.long qr), .second, .val (.ref b30), .val (.long tt3), .second, .val (.int (0 : Int32)), .unset]) rfl ?_
                refine XS.aload X245.here hx rfl (hb hby at_195) rfl rfl ?_
                show Steps p.tables e below (T245.setTop (mkF m 197 #[.val (.long qa), .second, .val (.long qb), .second, .val (.long qd), .second, .val (.int vc), .val (.int vk), .val (.long qq), .second, .val (.int nk), .val (.long q1), .second, .val (.long q2), .second, .val (.long q3), .second, .val (.long qe1), .second, .val (.long qe2), .second, .val (.long qr), .second, .val (.ref b30), .val (.long tt3), .second, .val (.int (0 : Int32)), .unset] [(.ref b30)])) _
                refine st248.trans ?_
                exact kt
              subst hzs
              have pre250 : ∀ t, Steps p.tables e below (T248.setTop (mkF m 200 #[.val (.long qa), .second, .val (.long qb), .second, .val (.long qd), .second, .val (.int vc), .val (.int vk), .val (.long qq), .second, .val (.int nk), .val (.long q1), .second, .val (.long q2), .second, .val (.long q3), .second, .val (.long qe1), .second, .val (.long qe2), .second, .val (.long qr), .second, .val (.ref b30), .val (.long tt3), .second, .val (.int (0 : Int32)), .unset] [(.int (2 : Int32))])) t → Steps p.tables e below (s₁.setTop (entryFrame m #[(.long qa), (.long qb), (.long qd), (.int vc), (.int vk), (.long qq)] maxLocals)) t := pre249
              have hc204_251 : ¬ ((0 : Int) < (0 : Int)) := by decide
              have hc211_252 : ¬ ((2 : Int) < (0 : Int)) := by decide
              have hc220_253 : (0 : Int) < (2 : Int) := by decide
              obtain ⟨cq254, kq254, q254a, q254b, q254c⟩ := isOf hZ e248 A238
              obtain ⟨_, _, ⟨T254, L254, k254, n254⟩, -, X254, ⟨Lc254, hQ254, l254, y254, z254⟩, st254⟩ := X248.virtualBack hx (y := (⟨"com/example/foreslot/foreslot/CountsByEnd", "end", "(I)J"⟩ : MethodName)) (z := (⟨"com/example/foreslot/foreslot/CountsByEnd", "end", "(I)J"⟩ : MethodName)) hown (mvT hZ (hw _ (List.mem_of_getElem? (i := 45) rfl))) (mvT hZ (hw _ (List.mem_of_getElem? (i := 46) rfl))) (notFace_of_selects (args := #[]) (mvT hZ (hw _ (List.mem_of_getElem? (i := 48) rfl)))) (mvT hZ (hw _ (List.mem_of_getElem? (i := 48) rfl))) (mvT hZ (hw _ (List.mem_of_getElem? (i := 47) rfl))) (by decide) (backOf (W := 1) (rm_e2_0 l Z a0 hw [] b30 ea ca kE kC y240_0 y240_1 d240_0 d240_1 T238.heap n0 Zs239 A238 Fe238 Fc238 F2_240 V0_240 V1_240) hZ (hw _ (List.mem_of_getElem? (i := 49) rfl)) (hw _ (List.mem_of_getElem? (i := 2) rfl)) (by decide) (by decide)) q254a q254c (g := (mkF m 229 #[.val (.long qa), .second, .val (.long qb), .second, .val (.long qd), .second, .val (.int vc), .val (.int vk), .val (.long qq), .second, .val (.int nk), .val (.long q1), .second, .val (.long q2), .second, .val (.long q3), .second, .val (.long qe1), .second, .val (.long qe2), .second, .val (.long qr), .second, .val (.ref b30), .val (.long tt3), .second, .val (.int (0 : Int32)), .val (.int (2 : Int32))] [(.int (0 : Int32)), (.ref b30), (.ref b30)])) rfl (by rw [hml]; rfl) (Steps.refl _) (argsL := [(.int (0 : Int32))]) (rest := [(.ref b30)]) (lenOf pd_6 rfl) rfl (by show 2 * 0 + _ ≤ _; exact Nat.le_of_eq rfl) (hb hby at_229) (fun _ _ => ⟨rfl, e248, (by decide : 3 + 0 ≤ _), (by decide : 35 + 0 ≤ _)⟩)
              dsimp only [Pt.U, Pt.locs, Pt.cells, Pt.slots] at X254 l254 y254 z254 st254 hQ254
              subst l254 y254 z254
              obtain ⟨ze, rfl, hze, N254q, e254⟩ := hQ254
              have N254 := Fr.app N248 N254q
              obtain ⟨cq255, kq255, q255a, q255b, q255c⟩ := isOf hZ e254 A238
              obtain ⟨_, _, ⟨T255, L255, k255, n255⟩, -, X255, ⟨Lc255, hQ255, l255, y255, z255⟩, st255⟩ := X254.virtualBack hx (y := (⟨"com/example/foreslot/foreslot/CountsByEnd", "heldUntilAtLatest", "(J)J"⟩ : MethodName)) (z := (⟨"com/example/foreslot/foreslot/CountsByEnd", "heldUntilAtLatest", "(J)J"⟩ : MethodName)) hown (mvT hZ (hw _ (List.mem_of_getElem? (i := 50) rfl))) (mvT hZ (hw _ (List.mem_of_getElem? (i := 51) rfl))) (notFace_of_selects (args := #[]) (mvT hZ (hw _ (List.mem_of_getElem? (i := 53) rfl)))) (mvT hZ (hw _ (List.mem_of_getElem? (i := 53) rfl))) (mvT hZ (hw _ (List.mem_of_getElem? (i := 52) rfl))) (by decide) (backOf (W := 0) (rm_h2 l Z a0 hw [] b30 ze ea ca kE kC y240_0 y240_1 d240_0 d240_1 T238.heap n0 Zs239 A238 Fe238 Fc238 F2_240 V0_240 V1_240 (by omega) (by omega) (by omega) (by omega)) hZ (hw _ (List.mem_of_getElem? (i := 54) rfl)) (hw _ (List.mem_of_getElem? (i := 2) rfl)) (by decide) (by decide)) q255a q255c (g := (mkF m 232 #[.val (.long qa), .second, .val (.long qb), .second, .val (.long qd), .second, .val (.int vc), .val (.int vk), .val (.long qq), .second, .val (.int nk), .val (.long q1), .second, .val (.long q2), .second, .val (.long q3), .second, .val (.long qe1), .second, .val (.long qe2), .second, .val (.long qr), .second, .val (.ref b30), .val (.long tt3), .second, .val (.int (0 : Int32)), .val (.int (2 : Int32))] [(.long ze), (.ref b30)])) rfl (by rw [hml]; rfl) (Steps.refl _) (argsL := [(.long ze)]) (rest := []) (lenOf pd_7 rfl) rfl (by show 2 * 0 + _ ≤ _; exact Nat.le_of_eq rfl) (hb hby at_232) (fun _ _ => ⟨rfl, e254, (by decide : 3 + 0 ≤ _), (by decide : 35 + 0 ≤ _)⟩)
              dsimp only [Pt.U, Pt.locs, Pt.cells, Pt.slots] at X255 l255 y255 z255 st255 hQ255
              subst l255 y255 z255
              obtain ⟨hd, rfl, hhd, N255q, e255⟩ := hQ255
              have N255 := Fr.app N254 N255q
              have hc238_256 : ¬ (hd.toInt < qr.toInt) := by rw [own_fp (x := y240_0.toInt) (by omega), own_fn (x := y240_1.toInt) (by omega)] at hhd; omega
              have hc260_257 : ¬ ((0 : Int) < (0 : Int)) := by decide
              obtain ⟨fs, hr, hrun, hended, hW, hsame⟩ := X255.leave (v := some (.int (1 : Int32))) (fun h => by rw [Bd.returns] at h; cases h)
              refine ⟨_, _, pre250 _ ?_, hrun, hended, _, _, rfl, ?_, ⟨_, rfl⟩, hW, hsame.mono (by decide) (by decide)⟩
              · refine XS.istore X248.here hx rfl (hb hby at_200) rfl (l' := #[.val (.long qa), .second, .val (.long qb), .second, .val (.long qd), .second, .val (.int vc), .val (.int vk), .val (.long qq), .second, .val (.int nk), .val (.long q1), .second, .val (.long q2), .second, .val (.long q3), .second, .val (.long qe1), .second, .val (.long qe2), .second, .val (.long qr), .second, .val (.ref b30), .val (.long tt3), .second, .val (.int (0 : Int32)), .val (.int (2 : Int32))]) rfl ?_
                refine XS.iload X248.here hx rfl (hb hby at_202) rfl ?_
                refine XS.ifNo X248.here hx rfl (hb hby at_204) rfl (own_if (own_flt (a := (0 : Int32)) (b := (0 : Int32)) (by decide) (by decide) hc204_251).1) ?_
                refine XS.iload X248.here hx rfl (hb hby at_207) rfl ?_
                show Steps p.tables e below (T248.setTop (mkF m 209 #[.val (.long qa), .second, .val (.long qb), .second, .val (.long qd), .second, .val (.int vc), .val (.int vk), .val (.long qq), .second, .val (.int nk), .val (.long q1), .second, .val (.long q2), .second, .val (.long q3), .second, .val (.long qe1), .second, .val (.long qe2), .second, .val (.long qr), .second, .val (.ref b30), .val (.long tt3), .second, .val (.int (0 : Int32)), .val (.int (2 : Int32))] [(.int (0 : Int32))])) _
                refine XS.iload X248.here hx rfl (hb hby at_209) rfl ?_
                refine XS.icmpYes X248.here hx rfl (pc0 := 211) (pc' := 216) rfl (hb hby at_211) rfl (own_flt (a := (2 : Int32)) (b := (0 : Int32)) (by decide) (by decide) hc211_252).2.2.2 (by decide) (by decide) ?_
                refine XS.iload X248.here hx rfl (hb hby at_216) rfl ?_
                refine XS.iload X248.here hx rfl (hb hby at_218) rfl ?_
                refine XS.icmpNo X248.here hx rfl (hb hby at_220) rfl (own_tlt (a := (0 : Int32)) (b := (2 : Int32)) (by decide) (by decide) hc220_253).2.1 ?_
                show Steps p.tables e below (T248.setTop (mkF m 223 #[.val (.long qa), .second, .val (.long qb), .second, .val (.long qd), .second, .val (.int vc), .val (.int vk), .val (.long qq), .second, .val (.int nk), .val (.long q1), .second, .val (.long q2), .second, .val (.long q3), .second, .val (.long qe1), .second, .val (.long qe2), .second, .val (.long qr), .second, .val (.ref b30), .val (.long tt3), .second, .val (.int (0 : Int32)), .val (.int (2 : Int32))] [])) _
                refine XS.aload X248.here hx rfl (hb hby at_223) rfl rfl ?_
                refine XS.aload X248.here hx rfl (hb hby at_225) rfl rfl ?_
                refine XS.iload X248.here hx rfl (hb hby at_227) rfl ?_
                refine st254.trans ?_
                refine st255.trans ?_
                show Steps p.tables e below (T255.setTop (mkF m 235 #[.val (.long qa), .second, .val (.long qb), .second, .val (.long qd), .second, .val (.int vc), .val (.int vk), .val (.long qq), .second, .val (.int nk), .val (.long q1), .second, .val (.long q2), .second, .val (.long q3), .second, .val (.long qe1), .second, .val (.long qe2), .second, .val (.long qr), .second, .val (.ref b30), .val (.long tt3), .second, .val (.int (0 : Int32)), .val (.int (2 : Int32))] [(.long hd)])) _
                refine XS.lload X255.here hx rfl (hb hby at_235) rfl ?_
                refine XS.lcmp X255.here hx rfl (hb hby at_237) rfl ?_
                refine XS.ifYes X255.here hx rfl (pc0 := 238) (pc' := 258) rfl (hb hby at_238) rfl (own_if (own_fltL (x := hd) (y := qr) rfl rfl hc238_256).2) (by decide) (by decide) ?_
                refine XS.iload X255.here hx rfl (hb hby at_258) rfl ?_
                refine XS.ifYes X255.here hx rfl (pc0 := 260) (pc' := 285) rfl (hb hby at_260) rfl (own_if (own_flt (a := (0 : Int32)) (b := (0 : Int32)) (by decide) (by decide) hc260_257).2.2.2) (by decide) (by decide) ?_
                show Steps p.tables e below (T255.setTop (mkF m 285 #[.val (.long qa), .second, .val (.long qb), .second, .val (.long qd), .second, .val (.int vc), .val (.int vk), .val (.long qq), .second, .val (.int nk), .val (.long q1), .second, .val (.long q2), .second, .val (.long q3), .second, .val (.long qe1), .second, .val (.long qe2), .second, .val (.long qr), .second, .val (.ref b30), .val (.long tt3), .second, .val (.int (0 : Int32)), .val (.int (2 : Int32))] [])) _
                refine XS.iconst X255.here hx rfl (hb hby at_285) ?_
                exact retN X255 hx (t := .boolean) Bd.returns (by simp) (hb hby at_286) hr
              · show Q0 Z qa qb qd vc vk qq h0 n0 _ T255.heap _
                rw [e255]
                exact ⟨rfl, N255⟩
            · have pre258 : ∀ t, Steps p.tables e below (T245.setTop (mkF m 193 #[.val (.long qa), .second, .val (.long qb), .second, .val (.long qd), .second, .val (.int vc), .val (.int vk), .val (.long qq), .second, .val (.int nk), .val (.long q1), .second, .val (.long q2), .second, .val (.long q3), .second, .val (.long qe1), .second, .val (.long qe2), .second, .val (.long qr), .second, .val (.ref b30), .val (.long tt3), .second, .unset, .unset] [(.int (1 : Int32))])) t → Steps p.tables e below (s₁.setTop (entryFrame m #[(.long qa), (.long qb), (.long qd), (.int vc), (.int vk), (.long qq)] maxLocals)) t := pre246
              obtain ⟨cq259, kq259, q259a, q259b, q259c⟩ := isOf hZ e245 A238
              obtain ⟨_, _, ⟨T259, L259, k259, n259⟩, -, X259, ⟨Lc259, hQ259, l259, y259, z259⟩, st259⟩ := X245.virtualBack hx (y := (⟨"com/example/foreslot/foreslot/CountsByEnd", "size", "()I"⟩ : MethodName)) (z := (⟨"com/example/foreslot/foreslot/CountsByEnd", "size", "()I"⟩ : MethodName)) hown (mvT hZ (hw _ (List.mem_of_getElem? (i := 40) rfl))) (mvT hZ (hw _ (List.mem_of_getElem? (i := 41) rfl))) (notFace_of_selects (args := #[]) (mvT hZ (hw _ (List.mem_of_getElem? (i := 43) rfl)))) (mvT hZ (hw _ (List.mem_of_getElem? (i := 43) rfl))) (mvT hZ (hw _ (List.mem_of_getElem? (i := 42) rfl))) (by decide) (backOf (W := 0) (rm_sz2 l Z a0 hw [] b30 ea ca kE kC y240_0 y240_1 d240_0 d240_1 T238.heap n0 Zs239 A238 Fe238 Fc238 F2_240 V0_240 V1_240) hZ (hw _ (List.mem_of_getElem? (i := 44) rfl)) (hw _ (List.mem_of_getElem? (i := 2) rfl)) (by decide) (by decide)) q259a q259c (g := (mkF m 197 #[.val (.long qa), .second, .val (.long qb), .second, .val (.long qd), .second, .val (.int vc), .val (.int vk), .val (.long qq), .second, .val (.int nk), .val (.long q1), .second, .val (.long q2), .second, .val (.long q3), .second, .val (.long qe1), .second, .val (.long qe2), .second, .val (.long qr), .second, .val (.ref b30), .val (.long tt3), .second, .val (.int (1 : Int32)), .unset] [(.ref b30)])) rfl (by rw [hml]; rfl) (Steps.refl _) (argsL := []) (rest := []) (lenOf pd_4 rfl) rfl (by show 2 * 0 + _ ≤ _; exact Nat.le_of_eq rfl) (hb hby at_197) (fun _ _ => ⟨rfl, e245, (by decide : 3 + 0 ≤ _), (by decide : 35 + 0 ≤ _)⟩)
              dsimp only [Pt.U, Pt.locs, Pt.cells, Pt.slots] at X259 l259 y259 z259 st259 hQ259
              subst l259 y259 z259
              obtain ⟨zs, rfl, hzs, N259q, e259⟩ := hQ259
              have N259 := Fr.app N245 N259q
              have pre260 : ∀ t, Steps p.tables e below (T259.setTop (mkF m 200 #[.val (.long qa), .second, .val (.long qb), .second, .val (.long qd), .second, .val (.int vc), .val (.int vk), .val (.long qq), .second, .val (.int nk), .val (.long q1), .second, .val (.long q2), .second, .val (.long q3), .second, .val (.long qe1), .second, .val (.long qe2), .second, .val (.long qr), .second, .val (.ref b30), .val (.long tt3), .second, .val (.int (1 : Int32)), .unset] [(.int zs)])) t → Steps p.tables e below (s₁.setTop (entryFrame m #[(.long qa), (.long qb), (.long qd), (.int vc), (.int vk), (.long qq)] maxLocals)) t := fun t kt => by
                refine pre258 _ ?_
                refine XS.istore X245.here hx rfl (hb hby at_193) rfl (l' := #[.val (.long qa), .second, .val (.long qb), .second, .val (.long qd), .second, .val (.int vc), .val (.int vk), .val (.long qq), .second, .val (.int nk), .val (.long q1), .second, .val (.long q2), .second, .val (.long q3), .second, .val (.long qe1), .second, .val (.long qe2), .second, .val (.long qr), .second, .val (.ref b30), .val (.long tt3), .second, .val (.int (1 : Int32)), .unset]) rfl ?_
                refine XS.aload X245.here hx rfl (hb hby at_195) rfl rfl ?_
                show Steps p.tables e below (T245.setTop (mkF m 197 #[.val (.long qa), .second, .val (.long qb), .second, .val (.long qd), .second, .val (.int vc), .val (.int vk), .val (.long qq), .second, .val (.int nk), .val (.long q1), .second, .val (.long q2), .second, .val (.long q3), .second, .val (.long qe1), .second, .val (.long qe2), .second, .val (.long qr), .second, .val (.ref b30), .val (.long tt3), .second, .val (.int (1 : Int32)), .unset] [(.ref b30)])) _
                refine st259.trans ?_
                exact kt
              subst hzs
              have pre261 : ∀ t, Steps p.tables e below (T259.setTop (mkF m 200 #[.val (.long qa), .second, .val (.long qb), .second, .val (.long qd), .second, .val (.int vc), .val (.int vk), .val (.long qq), .second, .val (.int nk), .val (.long q1), .second, .val (.long q2), .second, .val (.long q3), .second, .val (.long qe1), .second, .val (.long qe2), .second, .val (.long qr), .second, .val (.ref b30), .val (.long tt3), .second, .val (.int (1 : Int32)), .unset] [(.int (2 : Int32))])) t → Steps p.tables e below (s₁.setTop (entryFrame m #[(.long qa), (.long qb), (.long qd), (.int vc), (.int vk), (.long qq)] maxLocals)) t := pre260
              have hc204_262 : ¬ ((1 : Int) < (0 : Int)) := by decide
              have hc211_263 : ¬ ((2 : Int) < (1 : Int)) := by decide
              have hc220_264 : (1 : Int) < (2 : Int) := by decide
              obtain ⟨cq265, kq265, q265a, q265b, q265c⟩ := isOf hZ e259 A238
              obtain ⟨_, _, ⟨T265, L265, k265, n265⟩, -, X265, ⟨Lc265, hQ265, l265, y265, z265⟩, st265⟩ := X259.virtualBack hx (y := (⟨"com/example/foreslot/foreslot/CountsByEnd", "end", "(I)J"⟩ : MethodName)) (z := (⟨"com/example/foreslot/foreslot/CountsByEnd", "end", "(I)J"⟩ : MethodName)) hown (mvT hZ (hw _ (List.mem_of_getElem? (i := 45) rfl))) (mvT hZ (hw _ (List.mem_of_getElem? (i := 46) rfl))) (notFace_of_selects (args := #[]) (mvT hZ (hw _ (List.mem_of_getElem? (i := 48) rfl)))) (mvT hZ (hw _ (List.mem_of_getElem? (i := 48) rfl))) (mvT hZ (hw _ (List.mem_of_getElem? (i := 47) rfl))) (by decide) (backOf (W := 1) (rm_e2_1 l Z a0 hw [] b30 ea ca kE kC y240_0 y240_1 d240_0 d240_1 T238.heap n0 Zs239 A238 Fe238 Fc238 F2_240 V0_240 V1_240) hZ (hw _ (List.mem_of_getElem? (i := 49) rfl)) (hw _ (List.mem_of_getElem? (i := 2) rfl)) (by decide) (by decide)) q265a q265c (g := (mkF m 229 #[.val (.long qa), .second, .val (.long qb), .second, .val (.long qd), .second, .val (.int vc), .val (.int vk), .val (.long qq), .second, .val (.int nk), .val (.long q1), .second, .val (.long q2), .second, .val (.long q3), .second, .val (.long qe1), .second, .val (.long qe2), .second, .val (.long qr), .second, .val (.ref b30), .val (.long tt3), .second, .val (.int (1 : Int32)), .val (.int (2 : Int32))] [(.int (1 : Int32)), (.ref b30), (.ref b30)])) rfl (by rw [hml]; rfl) (Steps.refl _) (argsL := [(.int (1 : Int32))]) (rest := [(.ref b30)]) (lenOf pd_6 rfl) rfl (by show 2 * 0 + _ ≤ _; exact Nat.le_of_eq rfl) (hb hby at_229) (fun _ _ => ⟨rfl, e259, (by decide : 3 + 0 ≤ _), (by decide : 35 + 0 ≤ _)⟩)
              dsimp only [Pt.U, Pt.locs, Pt.cells, Pt.slots] at X265 l265 y265 z265 st265 hQ265
              subst l265 y265 z265
              obtain ⟨ze, rfl, hze, N265q, e265⟩ := hQ265
              have N265 := Fr.app N259 N265q
              obtain ⟨cq266, kq266, q266a, q266b, q266c⟩ := isOf hZ e265 A238
              obtain ⟨_, _, ⟨T266, L266, k266, n266⟩, -, X266, ⟨Lc266, hQ266, l266, y266, z266⟩, st266⟩ := X265.virtualBack hx (y := (⟨"com/example/foreslot/foreslot/CountsByEnd", "heldUntilAtLatest", "(J)J"⟩ : MethodName)) (z := (⟨"com/example/foreslot/foreslot/CountsByEnd", "heldUntilAtLatest", "(J)J"⟩ : MethodName)) hown (mvT hZ (hw _ (List.mem_of_getElem? (i := 50) rfl))) (mvT hZ (hw _ (List.mem_of_getElem? (i := 51) rfl))) (notFace_of_selects (args := #[]) (mvT hZ (hw _ (List.mem_of_getElem? (i := 53) rfl)))) (mvT hZ (hw _ (List.mem_of_getElem? (i := 53) rfl))) (mvT hZ (hw _ (List.mem_of_getElem? (i := 52) rfl))) (by decide) (backOf (W := 0) (rm_h2 l Z a0 hw [] b30 ze ea ca kE kC y240_0 y240_1 d240_0 d240_1 T238.heap n0 Zs239 A238 Fe238 Fc238 F2_240 V0_240 V1_240 (by omega) (by omega) (by omega) (by omega)) hZ (hw _ (List.mem_of_getElem? (i := 54) rfl)) (hw _ (List.mem_of_getElem? (i := 2) rfl)) (by decide) (by decide)) q266a q266c (g := (mkF m 232 #[.val (.long qa), .second, .val (.long qb), .second, .val (.long qd), .second, .val (.int vc), .val (.int vk), .val (.long qq), .second, .val (.int nk), .val (.long q1), .second, .val (.long q2), .second, .val (.long q3), .second, .val (.long qe1), .second, .val (.long qe2), .second, .val (.long qr), .second, .val (.ref b30), .val (.long tt3), .second, .val (.int (1 : Int32)), .val (.int (2 : Int32))] [(.long ze), (.ref b30)])) rfl (by rw [hml]; rfl) (Steps.refl _) (argsL := [(.long ze)]) (rest := []) (lenOf pd_7 rfl) rfl (by show 2 * 0 + _ ≤ _; exact Nat.le_of_eq rfl) (hb hby at_232) (fun _ _ => ⟨rfl, e265, (by decide : 3 + 0 ≤ _), (by decide : 35 + 0 ≤ _)⟩)
              dsimp only [Pt.U, Pt.locs, Pt.cells, Pt.slots] at X266 l266 y266 z266 st266 hQ266
              subst l266 y266 z266
              obtain ⟨hd, rfl, hhd, N266q, e266⟩ := hQ266
              have N266 := Fr.app N265 N266q
              have hc238_267 : ¬ (hd.toInt < qr.toInt) := by rw [own_fp (x := y240_0.toInt) (by omega), own_fp (x := y240_1.toInt) (by omega)] at hhd; omega
              have hc260_268 : (0 : Int) < (1 : Int) := by decide
              obtain ⟨cq269, kq269, q269a, q269b, q269c⟩ := isOf hZ e266 A238
              obtain ⟨_, _, ⟨T269, L269, k269, n269⟩, -, X269, ⟨Lc269, hQ269, l269, y269, z269⟩, st269⟩ := X266.virtualBack hx (y := (⟨"com/example/foreslot/foreslot/CountsByEnd", "end", "(I)J"⟩ : MethodName)) (z := (⟨"com/example/foreslot/foreslot/CountsByEnd", "end", "(I)J"⟩ : MethodName)) hown (mvT hZ (hw _ (List.mem_of_getElem? (i := 45) rfl))) (mvT hZ (hw _ (List.mem_of_getElem? (i := 46) rfl))) (notFace_of_selects (args := #[]) (mvT hZ (hw _ (List.mem_of_getElem? (i := 48) rfl)))) (mvT hZ (hw _ (List.mem_of_getElem? (i := 48) rfl))) (mvT hZ (hw _ (List.mem_of_getElem? (i := 47) rfl))) (by decide) (backOf (W := 1) (rm_e2_0 l Z a0 hw [] b30 ea ca kE kC y240_0 y240_1 d240_0 d240_1 T238.heap n0 Zs239 A238 Fe238 Fc238 F2_240 V0_240 V1_240) hZ (hw _ (List.mem_of_getElem? (i := 49) rfl)) (hw _ (List.mem_of_getElem? (i := 2) rfl)) (by decide) (by decide)) q269a q269c (g := (mkF m 271 #[.val (.long qa), .second, .val (.long qb), .second, .val (.long qd), .second, .val (.int vc), .val (.int vk), .val (.long qq), .second, .val (.int nk), .val (.long q1), .second, .val (.long q2), .second, .val (.long q3), .second, .val (.long qe1), .second, .val (.long qe2), .second, .val (.long qr), .second, .val (.ref b30), .val (.long tt3), .second, .val (.int (1 : Int32)), .val (.int (2 : Int32))] [(.int (0 : Int32)), (.ref b30), (.ref b30)])) rfl (by rw [hml]; rfl) (Steps.refl _) (argsL := [(.int (0 : Int32))]) (rest := [(.ref b30)]) (lenOf pd_6 rfl) rfl (by show 2 * 0 + _ ≤ _; exact Nat.le_of_eq rfl) (hb hby at_271) (fun _ _ => ⟨rfl, e266, (by decide : 3 + 0 ≤ _), (by decide : 35 + 0 ≤ _)⟩)
              dsimp only [Pt.U, Pt.locs, Pt.cells, Pt.slots] at X269 l269 y269 z269 st269 hQ269
              subst l269 y269 z269
              obtain ⟨zf, rfl, hzf, N269q, e269⟩ := hQ269
              have N269 := Fr.app N266 N269q
              obtain ⟨cq270, kq270, q270a, q270b, q270c⟩ := isOf hZ e269 A238
              obtain ⟨_, _, ⟨T270, L270, k270, n270⟩, -, X270, ⟨Lc270, hQ270, l270, y270, z270⟩, st270⟩ := X269.virtualBack hx (y := (⟨"com/example/foreslot/foreslot/CountsByEnd", "heldUntilAtLatest", "(J)J"⟩ : MethodName)) (z := (⟨"com/example/foreslot/foreslot/CountsByEnd", "heldUntilAtLatest", "(J)J"⟩ : MethodName)) hown (mvT hZ (hw _ (List.mem_of_getElem? (i := 50) rfl))) (mvT hZ (hw _ (List.mem_of_getElem? (i := 51) rfl))) (notFace_of_selects (args := #[]) (mvT hZ (hw _ (List.mem_of_getElem? (i := 53) rfl)))) (mvT hZ (hw _ (List.mem_of_getElem? (i := 53) rfl))) (mvT hZ (hw _ (List.mem_of_getElem? (i := 52) rfl))) (by decide) (backOf (W := 0) (rm_h2 l Z a0 hw [] b30 zf ea ca kE kC y240_0 y240_1 d240_0 d240_1 T238.heap n0 Zs239 A238 Fe238 Fc238 F2_240 V0_240 V1_240 (by omega) (by omega) (by omega) (by omega)) hZ (hw _ (List.mem_of_getElem? (i := 54) rfl)) (hw _ (List.mem_of_getElem? (i := 2) rfl)) (by decide) (by decide)) q270a q270c (g := (mkF m 274 #[.val (.long qa), .second, .val (.long qb), .second, .val (.long qd), .second, .val (.int vc), .val (.int vk), .val (.long qq), .second, .val (.int nk), .val (.long q1), .second, .val (.long q2), .second, .val (.long q3), .second, .val (.long qe1), .second, .val (.long qe2), .second, .val (.long qr), .second, .val (.ref b30), .val (.long tt3), .second, .val (.int (1 : Int32)), .val (.int (2 : Int32))] [(.long zf), (.ref b30)])) rfl (by rw [hml]; rfl) (Steps.refl _) (argsL := [(.long zf)]) (rest := []) (lenOf pd_7 rfl) rfl (by show 2 * 0 + _ ≤ _; exact Nat.le_of_eq rfl) (hb hby at_274) (fun _ _ => ⟨rfl, e269, (by decide : 3 + 0 ≤ _), (by decide : 35 + 0 ≤ _)⟩)
              dsimp only [Pt.U, Pt.locs, Pt.cells, Pt.slots] at X270 l270 y270 z270 st270 hQ270
              subst l270 y270 z270
              obtain ⟨hf, rfl, hhf, N270q, e270⟩ := hQ270
              have N270 := Fr.app N269 N270q
              have hc280_271 : hf.toInt < qr.toInt := by rw [own_fp (x := y240_0.toInt) (by omega), own_fn (x := y240_1.toInt) (by omega)] at hhf; omega
              obtain ⟨fs, hr, hrun, hended, hW, hsame⟩ := X270.leave (v := some (.int (1 : Int32))) (fun h => by rw [Bd.returns] at h; cases h)
              refine ⟨_, _, pre261 _ ?_, hrun, hended, _, _, rfl, ?_, ⟨_, rfl⟩, hW, hsame.mono (by decide) (by decide)⟩
              · refine XS.istore X259.here hx rfl (hb hby at_200) rfl (l' := #[.val (.long qa), .second, .val (.long qb), .second, .val (.long qd), .second, .val (.int vc), .val (.int vk), .val (.long qq), .second, .val (.int nk), .val (.long q1), .second, .val (.long q2), .second, .val (.long q3), .second, .val (.long qe1), .second, .val (.long qe2), .second, .val (.long qr), .second, .val (.ref b30), .val (.long tt3), .second, .val (.int (1 : Int32)), .val (.int (2 : Int32))]) rfl ?_
                refine XS.iload X259.here hx rfl (hb hby at_202) rfl ?_
                refine XS.ifNo X259.here hx rfl (hb hby at_204) rfl (own_if (own_flt (a := (1 : Int32)) (b := (0 : Int32)) (by decide) (by decide) hc204_262).1) ?_
                refine XS.iload X259.here hx rfl (hb hby at_207) rfl ?_
                show Steps p.tables e below (T259.setTop (mkF m 209 #[.val (.long qa), .second, .val (.long qb), .second, .val (.long qd), .second, .val (.int vc), .val (.int vk), .val (.long qq), .second, .val (.int nk), .val (.long q1), .second, .val (.long q2), .second, .val (.long q3), .second, .val (.long qe1), .second, .val (.long qe2), .second, .val (.long qr), .second, .val (.ref b30), .val (.long tt3), .second, .val (.int (1 : Int32)), .val (.int (2 : Int32))] [(.int (1 : Int32))])) _
                refine XS.iload X259.here hx rfl (hb hby at_209) rfl ?_
                refine XS.icmpYes X259.here hx rfl (pc0 := 211) (pc' := 216) rfl (hb hby at_211) rfl (own_flt (a := (2 : Int32)) (b := (1 : Int32)) (by decide) (by decide) hc211_263).2.2.2 (by decide) (by decide) ?_
                refine XS.iload X259.here hx rfl (hb hby at_216) rfl ?_
                refine XS.iload X259.here hx rfl (hb hby at_218) rfl ?_
                refine XS.icmpNo X259.here hx rfl (hb hby at_220) rfl (own_tlt (a := (1 : Int32)) (b := (2 : Int32)) (by decide) (by decide) hc220_264).2.1 ?_
                show Steps p.tables e below (T259.setTop (mkF m 223 #[.val (.long qa), .second, .val (.long qb), .second, .val (.long qd), .second, .val (.int vc), .val (.int vk), .val (.long qq), .second, .val (.int nk), .val (.long q1), .second, .val (.long q2), .second, .val (.long q3), .second, .val (.long qe1), .second, .val (.long qe2), .second, .val (.long qr), .second, .val (.ref b30), .val (.long tt3), .second, .val (.int (1 : Int32)), .val (.int (2 : Int32))] [])) _
                refine XS.aload X259.here hx rfl (hb hby at_223) rfl rfl ?_
                refine XS.aload X259.here hx rfl (hb hby at_225) rfl rfl ?_
                refine XS.iload X259.here hx rfl (hb hby at_227) rfl ?_
                refine st265.trans ?_
                refine st266.trans ?_
                show Steps p.tables e below (T266.setTop (mkF m 235 #[.val (.long qa), .second, .val (.long qb), .second, .val (.long qd), .second, .val (.int vc), .val (.int vk), .val (.long qq), .second, .val (.int nk), .val (.long q1), .second, .val (.long q2), .second, .val (.long q3), .second, .val (.long qe1), .second, .val (.long qe2), .second, .val (.long qr), .second, .val (.ref b30), .val (.long tt3), .second, .val (.int (1 : Int32)), .val (.int (2 : Int32))] [(.long hd)])) _
                refine XS.lload X266.here hx rfl (hb hby at_235) rfl ?_
                refine XS.lcmp X266.here hx rfl (hb hby at_237) rfl ?_
                refine XS.ifYes X266.here hx rfl (pc0 := 238) (pc' := 258) rfl (hb hby at_238) rfl (own_if (own_fltL (x := hd) (y := qr) rfl rfl hc238_267).2) (by decide) (by decide) ?_
                refine XS.iload X266.here hx rfl (hb hby at_258) rfl ?_
                refine XS.ifNo X266.here hx rfl (hb hby at_260) rfl (own_if (own_tlt (a := (0 : Int32)) (b := (1 : Int32)) (by decide) (by decide) hc260_268).2.2.2) ?_
                show Steps p.tables e below (T266.setTop (mkF m 263 #[.val (.long qa), .second, .val (.long qb), .second, .val (.long qd), .second, .val (.int vc), .val (.int vk), .val (.long qq), .second, .val (.int nk), .val (.long q1), .second, .val (.long q2), .second, .val (.long q3), .second, .val (.long qe1), .second, .val (.long qe2), .second, .val (.long qr), .second, .val (.ref b30), .val (.long tt3), .second, .val (.int (1 : Int32)), .val (.int (2 : Int32))] [])) _
                refine XS.aload X266.here hx rfl (hb hby at_263) rfl rfl ?_
                refine XS.aload X266.here hx rfl (hb hby at_265) rfl rfl ?_
                refine XS.iload X266.here hx rfl (hb hby at_267) rfl ?_
                refine XS.iconst X266.here hx rfl (hb hby at_269) ?_
                refine XS.isub X266.here hx rfl (hb hby at_270) rfl ?_
                show Steps p.tables e below (T266.setTop (mkF m 271 #[.val (.long qa), .second, .val (.long qb), .second, .val (.long qd), .second, .val (.int vc), .val (.int vk), .val (.long qq), .second, .val (.int nk), .val (.long q1), .second, .val (.long q2), .second, .val (.long q3), .second, .val (.long qe1), .second, .val (.long qe2), .second, .val (.long qr), .second, .val (.ref b30), .val (.long tt3), .second, .val (.int (1 : Int32)), .val (.int (2 : Int32))] [(.int (0 : Int32)), (.ref b30), (.ref b30)])) _
                refine st269.trans ?_
                refine st270.trans ?_
                refine XS.lload X270.here hx rfl (hb hby at_277) rfl ?_
                refine XS.lcmp X270.here hx rfl (hb hby at_279) rfl ?_
                refine XS.ifYes X270.here hx rfl (pc0 := 280) (pc' := 285) rfl (hb hby at_280) rfl (own_if (own_tltL (x := hf) (y := qr) rfl rfl hc280_271).1) (by decide) (by decide) ?_
                show Steps p.tables e below (T270.setTop (mkF m 285 #[.val (.long qa), .second, .val (.long qb), .second, .val (.long qd), .second, .val (.int vc), .val (.int vk), .val (.long qq), .second, .val (.int nk), .val (.long q1), .second, .val (.long q2), .second, .val (.long q3), .second, .val (.long qe1), .second, .val (.long qe2), .second, .val (.long qr), .second, .val (.ref b30), .val (.long tt3), .second, .val (.int (1 : Int32)), .val (.int (2 : Int32))] [])) _
                refine XS.iconst X270.here hx rfl (hb hby at_285) ?_
                exact retN X270 hx (t := .boolean) Bd.returns (by simp) (hb hby at_286) hr
              · show Q0 Z qa qb qd vc vk qq h0 n0 _ T270.heap _
                rw [e270]
                exact ⟨rfl, N270⟩
            · have pre272 : ∀ t, Steps p.tables e below (T245.setTop (mkF m 193 #[.val (.long qa), .second, .val (.long qb), .second, .val (.long qd), .second, .val (.int vc), .val (.int vk), .val (.long qq), .second, .val (.int nk), .val (.long q1), .second, .val (.long q2), .second, .val (.long q3), .second, .val (.long qe1), .second, .val (.long qe2), .second, .val (.long qr), .second, .val (.ref b30), .val (.long tt3), .second, .unset, .unset] [(.int (2 : Int32))])) t → Steps p.tables e below (s₁.setTop (entryFrame m #[(.long qa), (.long qb), (.long qd), (.int vc), (.int vk), (.long qq)] maxLocals)) t := pre246
              obtain ⟨cq273, kq273, q273a, q273b, q273c⟩ := isOf hZ e245 A238
              obtain ⟨_, _, ⟨T273, L273, k273, n273⟩, -, X273, ⟨Lc273, hQ273, l273, y273, z273⟩, st273⟩ := X245.virtualBack hx (y := (⟨"com/example/foreslot/foreslot/CountsByEnd", "size", "()I"⟩ : MethodName)) (z := (⟨"com/example/foreslot/foreslot/CountsByEnd", "size", "()I"⟩ : MethodName)) hown (mvT hZ (hw _ (List.mem_of_getElem? (i := 40) rfl))) (mvT hZ (hw _ (List.mem_of_getElem? (i := 41) rfl))) (notFace_of_selects (args := #[]) (mvT hZ (hw _ (List.mem_of_getElem? (i := 43) rfl)))) (mvT hZ (hw _ (List.mem_of_getElem? (i := 43) rfl))) (mvT hZ (hw _ (List.mem_of_getElem? (i := 42) rfl))) (by decide) (backOf (W := 0) (rm_sz2 l Z a0 hw [] b30 ea ca kE kC y240_0 y240_1 d240_0 d240_1 T238.heap n0 Zs239 A238 Fe238 Fc238 F2_240 V0_240 V1_240) hZ (hw _ (List.mem_of_getElem? (i := 44) rfl)) (hw _ (List.mem_of_getElem? (i := 2) rfl)) (by decide) (by decide)) q273a q273c (g := (mkF m 197 #[.val (.long qa), .second, .val (.long qb), .second, .val (.long qd), .second, .val (.int vc), .val (.int vk), .val (.long qq), .second, .val (.int nk), .val (.long q1), .second, .val (.long q2), .second, .val (.long q3), .second, .val (.long qe1), .second, .val (.long qe2), .second, .val (.long qr), .second, .val (.ref b30), .val (.long tt3), .second, .val (.int (2 : Int32)), .unset] [(.ref b30)])) rfl (by rw [hml]; rfl) (Steps.refl _) (argsL := []) (rest := []) (lenOf pd_4 rfl) rfl (by show 2 * 0 + _ ≤ _; exact Nat.le_of_eq rfl) (hb hby at_197) (fun _ _ => ⟨rfl, e245, (by decide : 3 + 0 ≤ _), (by decide : 35 + 0 ≤ _)⟩)
              dsimp only [Pt.U, Pt.locs, Pt.cells, Pt.slots] at X273 l273 y273 z273 st273 hQ273
              subst l273 y273 z273
              obtain ⟨zs, rfl, hzs, N273q, e273⟩ := hQ273
              have N273 := Fr.app N245 N273q
              have pre274 : ∀ t, Steps p.tables e below (T273.setTop (mkF m 200 #[.val (.long qa), .second, .val (.long qb), .second, .val (.long qd), .second, .val (.int vc), .val (.int vk), .val (.long qq), .second, .val (.int nk), .val (.long q1), .second, .val (.long q2), .second, .val (.long q3), .second, .val (.long qe1), .second, .val (.long qe2), .second, .val (.long qr), .second, .val (.ref b30), .val (.long tt3), .second, .val (.int (2 : Int32)), .unset] [(.int zs)])) t → Steps p.tables e below (s₁.setTop (entryFrame m #[(.long qa), (.long qb), (.long qd), (.int vc), (.int vk), (.long qq)] maxLocals)) t := fun t kt => by
                refine pre272 _ ?_
                refine XS.istore X245.here hx rfl (hb hby at_193) rfl (l' := #[.val (.long qa), .second, .val (.long qb), .second, .val (.long qd), .second, .val (.int vc), .val (.int vk), .val (.long qq), .second, .val (.int nk), .val (.long q1), .second, .val (.long q2), .second, .val (.long q3), .second, .val (.long qe1), .second, .val (.long qe2), .second, .val (.long qr), .second, .val (.ref b30), .val (.long tt3), .second, .val (.int (2 : Int32)), .unset]) rfl ?_
                refine XS.aload X245.here hx rfl (hb hby at_195) rfl rfl ?_
                show Steps p.tables e below (T245.setTop (mkF m 197 #[.val (.long qa), .second, .val (.long qb), .second, .val (.long qd), .second, .val (.int vc), .val (.int vk), .val (.long qq), .second, .val (.int nk), .val (.long q1), .second, .val (.long q2), .second, .val (.long q3), .second, .val (.long qe1), .second, .val (.long qe2), .second, .val (.long qr), .second, .val (.ref b30), .val (.long tt3), .second, .val (.int (2 : Int32)), .unset] [(.ref b30)])) _
                refine st273.trans ?_
                exact kt
              subst hzs
              have pre275 : ∀ t, Steps p.tables e below (T273.setTop (mkF m 200 #[.val (.long qa), .second, .val (.long qb), .second, .val (.long qd), .second, .val (.int vc), .val (.int vk), .val (.long qq), .second, .val (.int nk), .val (.long q1), .second, .val (.long q2), .second, .val (.long q3), .second, .val (.long qe1), .second, .val (.long qe2), .second, .val (.long qr), .second, .val (.ref b30), .val (.long tt3), .second, .val (.int (2 : Int32)), .unset] [(.int (2 : Int32))])) t → Steps p.tables e below (s₁.setTop (entryFrame m #[(.long qa), (.long qb), (.long qd), (.int vc), (.int vk), (.long qq)] maxLocals)) t := pre274
              have hc204_276 : ¬ ((2 : Int) < (0 : Int)) := by decide
              have hc211_277 : ¬ ((2 : Int) < (2 : Int)) := by decide
              have hc220_278 : ¬ ((2 : Int) < (2 : Int)) := by decide
              have hc245_279 : (0 : Int) < (2 : Int) := by decide
              have hc253_280 : tt3.toInt < qr.toInt := by omega
              have hc260_281 : (0 : Int) < (2 : Int) := by decide
              obtain ⟨cq282, kq282, q282a, q282b, q282c⟩ := isOf hZ e273 A238
              obtain ⟨_, _, ⟨T282, L282, k282, n282⟩, -, X282, ⟨Lc282, hQ282, l282, y282, z282⟩, st282⟩ := X273.virtualBack hx (y := (⟨"com/example/foreslot/foreslot/CountsByEnd", "end", "(I)J"⟩ : MethodName)) (z := (⟨"com/example/foreslot/foreslot/CountsByEnd", "end", "(I)J"⟩ : MethodName)) hown (mvT hZ (hw _ (List.mem_of_getElem? (i := 45) rfl))) (mvT hZ (hw _ (List.mem_of_getElem? (i := 46) rfl))) (notFace_of_selects (args := #[]) (mvT hZ (hw _ (List.mem_of_getElem? (i := 48) rfl)))) (mvT hZ (hw _ (List.mem_of_getElem? (i := 48) rfl))) (mvT hZ (hw _ (List.mem_of_getElem? (i := 47) rfl))) (by decide) (backOf (W := 1) (rm_e2_1 l Z a0 hw [] b30 ea ca kE kC y240_0 y240_1 d240_0 d240_1 T238.heap n0 Zs239 A238 Fe238 Fc238 F2_240 V0_240 V1_240) hZ (hw _ (List.mem_of_getElem? (i := 49) rfl)) (hw _ (List.mem_of_getElem? (i := 2) rfl)) (by decide) (by decide)) q282a q282c (g := (mkF m 271 #[.val (.long qa), .second, .val (.long qb), .second, .val (.long qd), .second, .val (.int vc), .val (.int vk), .val (.long qq), .second, .val (.int nk), .val (.long q1), .second, .val (.long q2), .second, .val (.long q3), .second, .val (.long qe1), .second, .val (.long qe2), .second, .val (.long qr), .second, .val (.ref b30), .val (.long tt3), .second, .val (.int (2 : Int32)), .val (.int (2 : Int32))] [(.int (1 : Int32)), (.ref b30), (.ref b30)])) rfl (by rw [hml]; rfl) (Steps.refl _) (argsL := [(.int (1 : Int32))]) (rest := [(.ref b30)]) (lenOf pd_6 rfl) rfl (by show 2 * 0 + _ ≤ _; exact Nat.le_of_eq rfl) (hb hby at_271) (fun _ _ => ⟨rfl, e273, (by decide : 3 + 0 ≤ _), (by decide : 35 + 0 ≤ _)⟩)
              dsimp only [Pt.U, Pt.locs, Pt.cells, Pt.slots] at X282 l282 y282 z282 st282 hQ282
              subst l282 y282 z282
              obtain ⟨zf, rfl, hzf, N282q, e282⟩ := hQ282
              have N282 := Fr.app N273 N282q
              obtain ⟨cq283, kq283, q283a, q283b, q283c⟩ := isOf hZ e282 A238
              obtain ⟨_, _, ⟨T283, L283, k283, n283⟩, -, X283, ⟨Lc283, hQ283, l283, y283, z283⟩, st283⟩ := X282.virtualBack hx (y := (⟨"com/example/foreslot/foreslot/CountsByEnd", "heldUntilAtLatest", "(J)J"⟩ : MethodName)) (z := (⟨"com/example/foreslot/foreslot/CountsByEnd", "heldUntilAtLatest", "(J)J"⟩ : MethodName)) hown (mvT hZ (hw _ (List.mem_of_getElem? (i := 50) rfl))) (mvT hZ (hw _ (List.mem_of_getElem? (i := 51) rfl))) (notFace_of_selects (args := #[]) (mvT hZ (hw _ (List.mem_of_getElem? (i := 53) rfl)))) (mvT hZ (hw _ (List.mem_of_getElem? (i := 53) rfl))) (mvT hZ (hw _ (List.mem_of_getElem? (i := 52) rfl))) (by decide) (backOf (W := 0) (rm_h2 l Z a0 hw [] b30 zf ea ca kE kC y240_0 y240_1 d240_0 d240_1 T238.heap n0 Zs239 A238 Fe238 Fc238 F2_240 V0_240 V1_240 (by omega) (by omega) (by omega) (by omega)) hZ (hw _ (List.mem_of_getElem? (i := 54) rfl)) (hw _ (List.mem_of_getElem? (i := 2) rfl)) (by decide) (by decide)) q283a q283c (g := (mkF m 274 #[.val (.long qa), .second, .val (.long qb), .second, .val (.long qd), .second, .val (.int vc), .val (.int vk), .val (.long qq), .second, .val (.int nk), .val (.long q1), .second, .val (.long q2), .second, .val (.long q3), .second, .val (.long qe1), .second, .val (.long qe2), .second, .val (.long qr), .second, .val (.ref b30), .val (.long tt3), .second, .val (.int (2 : Int32)), .val (.int (2 : Int32))] [(.long zf), (.ref b30)])) rfl (by rw [hml]; rfl) (Steps.refl _) (argsL := [(.long zf)]) (rest := []) (lenOf pd_7 rfl) rfl (by show 2 * 0 + _ ≤ _; exact Nat.le_of_eq rfl) (hb hby at_274) (fun _ _ => ⟨rfl, e282, (by decide : 3 + 0 ≤ _), (by decide : 35 + 0 ≤ _)⟩)
              dsimp only [Pt.U, Pt.locs, Pt.cells, Pt.slots] at X283 l283 y283 z283 st283 hQ283
              subst l283 y283 z283
              obtain ⟨hf, rfl, hhf, N283q, e283⟩ := hQ283
              have N283 := Fr.app N282 N283q
              have hc280_284 : hf.toInt < qr.toInt := by rw [own_fp (x := y240_0.toInt) (by omega), own_fp (x := y240_1.toInt) (by omega)] at hhf; omega
              obtain ⟨fs, hr, hrun, hended, hW, hsame⟩ := X283.leave (v := some (.int (1 : Int32))) (fun h => by rw [Bd.returns] at h; cases h)
              refine ⟨_, _, pre275 _ ?_, hrun, hended, _, _, rfl, ?_, ⟨_, rfl⟩, hW, hsame.mono (by decide) (by decide)⟩
              · refine XS.istore X273.here hx rfl (hb hby at_200) rfl (l' := #[.val (.long qa), .second, .val (.long qb), .second, .val (.long qd), .second, .val (.int vc), .val (.int vk), .val (.long qq), .second, .val (.int nk), .val (.long q1), .second, .val (.long q2), .second, .val (.long q3), .second, .val (.long qe1), .second, .val (.long qe2), .second, .val (.long qr), .second, .val (.ref b30), .val (.long tt3), .second, .val (.int (2 : Int32)), .val (.int (2 : Int32))]) rfl ?_
                refine XS.iload X273.here hx rfl (hb hby at_202) rfl ?_
                refine XS.ifNo X273.here hx rfl (hb hby at_204) rfl (own_if (own_flt (a := (2 : Int32)) (b := (0 : Int32)) (by decide) (by decide) hc204_276).1) ?_
                refine XS.iload X273.here hx rfl (hb hby at_207) rfl ?_
                show Steps p.tables e below (T273.setTop (mkF m 209 #[.val (.long qa), .second, .val (.long qb), .second, .val (.long qd), .second, .val (.int vc), .val (.int vk), .val (.long qq), .second, .val (.int nk), .val (.long q1), .second, .val (.long q2), .second, .val (.long q3), .second, .val (.long qe1), .second, .val (.long qe2), .second, .val (.long qr), .second, .val (.ref b30), .val (.long tt3), .second, .val (.int (2 : Int32)), .val (.int (2 : Int32))] [(.int (2 : Int32))])) _
                refine XS.iload X273.here hx rfl (hb hby at_209) rfl ?_
                refine XS.icmpYes X273.here hx rfl (pc0 := 211) (pc' := 216) rfl (hb hby at_211) rfl (own_flt (a := (2 : Int32)) (b := (2 : Int32)) (by decide) (by decide) hc211_277).2.2.2 (by decide) (by decide) ?_
                refine XS.iload X273.here hx rfl (hb hby at_216) rfl ?_
                refine XS.iload X273.here hx rfl (hb hby at_218) rfl ?_
                refine XS.icmpYes X273.here hx rfl (pc0 := 220) (pc' := 243) rfl (hb hby at_220) rfl (own_flt (a := (2 : Int32)) (b := (2 : Int32)) (by decide) (by decide) hc220_278).2.1 (by decide) (by decide) ?_
                show Steps p.tables e below (T273.setTop (mkF m 243 #[.val (.long qa), .second, .val (.long qb), .second, .val (.long qd), .second, .val (.int vc), .val (.int vk), .val (.long qq), .second, .val (.int nk), .val (.long q1), .second, .val (.long q2), .second, .val (.long q3), .second, .val (.long qe1), .second, .val (.long qe2), .second, .val (.long qr), .second, .val (.ref b30), .val (.long tt3), .second, .val (.int (2 : Int32)), .val (.int (2 : Int32))] [])) _
                refine XS.iload X273.here hx rfl (hb hby at_243) rfl ?_
                refine XS.ifNo X273.here hx rfl (hb hby at_245) rfl (own_if (own_tlt (a := (0 : Int32)) (b := (2 : Int32)) (by decide) (by decide) hc245_279).2.2.2) ?_
                refine XS.lload X273.here hx rfl (hb hby at_248) rfl ?_
                refine XS.lload X273.here hx rfl (hb hby at_250) rfl ?_
                refine XS.lcmp X273.here hx rfl (hb hby at_252) rfl ?_
                show Steps p.tables e below (T273.setTop (mkF m 253 #[.val (.long qa), .second, .val (.long qb), .second, .val (.long qd), .second, .val (.int vc), .val (.int vk), .val (.long qq), .second, .val (.int nk), .val (.long q1), .second, .val (.long q2), .second, .val (.long q3), .second, .val (.long qe1), .second, .val (.long qe2), .second, .val (.long qr), .second, .val (.ref b30), .val (.long tt3), .second, .val (.int (2 : Int32)), .val (.int (2 : Int32))] [(.int (lcmpW tt3 qr))])) _
                refine XS.ifYes X273.here hx rfl (pc0 := 253) (pc' := 258) rfl (hb hby at_253) rfl (own_if (own_tltL (x := tt3) (y := qr) rfl rfl hc253_280).1) (by decide) (by decide) ?_
                refine XS.iload X273.here hx rfl (hb hby at_258) rfl ?_
                refine XS.ifNo X273.here hx rfl (hb hby at_260) rfl (own_if (own_tlt (a := (0 : Int32)) (b := (2 : Int32)) (by decide) (by decide) hc260_281).2.2.2) ?_
                refine XS.aload X273.here hx rfl (hb hby at_263) rfl rfl ?_
                refine XS.aload X273.here hx rfl (hb hby at_265) rfl rfl ?_
                show Steps p.tables e below (T273.setTop (mkF m 267 #[.val (.long qa), .second, .val (.long qb), .second, .val (.long qd), .second, .val (.int vc), .val (.int vk), .val (.long qq), .second, .val (.int nk), .val (.long q1), .second, .val (.long q2), .second, .val (.long q3), .second, .val (.long qe1), .second, .val (.long qe2), .second, .val (.long qr), .second, .val (.ref b30), .val (.long tt3), .second, .val (.int (2 : Int32)), .val (.int (2 : Int32))] [(.ref b30), (.ref b30)])) _
                refine XS.iload X273.here hx rfl (hb hby at_267) rfl ?_
                refine XS.iconst X273.here hx rfl (hb hby at_269) ?_
                refine XS.isub X273.here hx rfl (hb hby at_270) rfl ?_
                refine st282.trans ?_
                refine st283.trans ?_
                show Steps p.tables e below (T283.setTop (mkF m 277 #[.val (.long qa), .second, .val (.long qb), .second, .val (.long qd), .second, .val (.int vc), .val (.int vk), .val (.long qq), .second, .val (.int nk), .val (.long q1), .second, .val (.long q2), .second, .val (.long q3), .second, .val (.long qe1), .second, .val (.long qe2), .second, .val (.long qr), .second, .val (.ref b30), .val (.long tt3), .second, .val (.int (2 : Int32)), .val (.int (2 : Int32))] [(.long hf)])) _
                refine XS.lload X283.here hx rfl (hb hby at_277) rfl ?_
                refine XS.lcmp X283.here hx rfl (hb hby at_279) rfl ?_
                refine XS.ifYes X283.here hx rfl (pc0 := 280) (pc' := 285) rfl (hb hby at_280) rfl (own_if (own_tltL (x := hf) (y := qr) rfl rfl hc280_284).1) (by decide) (by decide) ?_
                refine XS.iconst X283.here hx rfl (hb hby at_285) ?_
                exact retN X283 hx (t := .boolean) Bd.returns (by simp) (hb hby at_286) hr
              · show Q0 Z qa qb qd vc vk qq h0 n0 _ T283.heap _
                rw [e283]
                exact ⟨rfl, N283⟩
          · have own_mark241 := True.intro
            have pre285 : ∀ t, Steps p.tables e below (T238.setTop (mkF m 184 #[.val (.long qa), .second, .val (.long qb), .second, .val (.long qd), .second, .val (.int vc), .val (.int vk), .val (.long qq), .second, .val (.int nk), .val (.long q1), .second, .val (.long q2), .second, .val (.long q3), .second, .val (.long qe1), .second, .val (.long qe2), .second, .val (.long qr), .second, .val (.ref b30), .val (.long tt2), .second, .unset, .unset] [(.long (tt2 + q3))])) t → Steps p.tables e below (s₁.setTop (entryFrame m #[(.long qa), (.long qb), (.long qd), (.int vc), (.int vk), (.long qq)] maxLocals)) t := fun t kt => by
              refine pre242 _ ?_
              refine XS.lload X238.here hx rfl (hb hby at_179) rfl ?_
              refine XS.lload X238.here hx rfl (hb hby at_181) rfl ?_
              refine XS.ladd X238.here hx rfl (hb hby at_183) rfl ?_
              exact kt
            obtain ⟨tt3, htt3⟩ : ∃ z : Int64, z = (tt2 + q3) := ⟨_, rfl⟩
            have itt3 : tt3.toInt = q1.toInt + q2.toInt + q3.toInt := by rw [htt3]; have := rng64 tt2; have := rng64 q3; (first | (have : ((tt2 + q3)).toInt = tt2.toInt + q3.toInt := (by have : (((tt2 + q3)).toInt - (tt2.toInt + q3.toInt)) % 18446744073709551616 = 0 := c_ladd tt2 q3; have := rng64 (tt2 + q3); omega)) | (have : (((tt2 + q3)).toInt - (tt2.toInt + q3.toInt)) % 18446744073709551616 = 0 := c_ladd tt2 q3; have := rng64 (tt2 + q3))); omega
            have pre286 : ∀ t, Steps p.tables e below (T238.setTop (mkF m 184 #[.val (.long qa), .second, .val (.long qb), .second, .val (.long qd), .second, .val (.int vc), .val (.int vk), .val (.long qq), .second, .val (.int nk), .val (.long q1), .second, .val (.long q2), .second, .val (.long q3), .second, .val (.long qe1), .second, .val (.long qe2), .second, .val (.long qr), .second, .val (.ref b30), .val (.long tt2), .second, .unset, .unset] [(.long tt3)])) t → Steps p.tables e below (s₁.setTop (entryFrame m #[(.long qa), (.long qb), (.long qd), (.int vc), (.int vk), (.long qq)] maxLocals)) t := by rw [htt3]; exact pre285
            obtain ⟨cq287, kq287, q287a, q287b, q287c⟩ := isOf hZ rfl A238
            obtain ⟨_, _, ⟨T287, L287, k287, n287⟩, -, X287, ⟨Lc287, hQ287, l287, y287, z287⟩, st287⟩ := X238.virtualBack hx (y := (⟨"com/example/foreslot/foreslot/CountsByEnd", "firstReaching", "(J)I"⟩ : MethodName)) (z := (⟨"com/example/foreslot/foreslot/CountsByEnd", "firstReaching", "(J)I"⟩ : MethodName)) hown (mvT hZ (hw _ (List.mem_of_getElem? (i := 35) rfl))) (mvT hZ (hw _ (List.mem_of_getElem? (i := 36) rfl))) (notFace_of_selects (args := #[]) (mvT hZ (hw _ (List.mem_of_getElem? (i := 38) rfl)))) (mvT hZ (hw _ (List.mem_of_getElem? (i := 38) rfl))) (mvT hZ (hw _ (List.mem_of_getElem? (i := 37) rfl))) (by decide) (backOf (W := 0) (rm_fr3 l Z a0 hw [] b30 qr ea ca kE kC y241_0 y241_1 y241_2 d241_0 d241_1 d241_2 T238.heap n0 Zs239 A238 Fe238 Fc238 F2_241 V0_241 V1_241 (by omega) (by omega) (by omega) (by omega)) hZ (hw _ (List.mem_of_getElem? (i := 39) rfl)) (hw _ (List.mem_of_getElem? (i := 2) rfl)) (by decide) (by decide)) q287a q287c (g := (mkF m 190 #[.val (.long qa), .second, .val (.long qb), .second, .val (.long qd), .second, .val (.int vc), .val (.int vk), .val (.long qq), .second, .val (.int nk), .val (.long q1), .second, .val (.long q2), .second, .val (.long q3), .second, .val (.long qe1), .second, .val (.long qe2), .second, .val (.long qr), .second, .val (.ref b30), .val (.long tt3), .second, .unset, .unset] [(.long qr), (.ref b30)])) rfl (by rw [hml]; rfl) (Steps.refl _) (argsL := [(.long qr)]) (rest := []) (lenOf pd_3 rfl) rfl (by show 2 * 0 + _ ≤ _; exact Nat.le_of_eq rfl) (hb hby at_190) (fun _ _ => ⟨rfl, rfl, (by decide : 3 + 0 ≤ _), (by decide : 35 + 0 ≤ _)⟩)
            dsimp only [Pt.U, Pt.locs, Pt.cells, Pt.slots] at X287 l287 y287 z287 st287 hQ287
            subst l287 y287 z287
            obtain ⟨zr, rfl, hzr, N287q, e287⟩ := hQ287
            have N287 := Fr.app N238 N287q
            have pre288 : ∀ t, Steps p.tables e below (T287.setTop (mkF m 193 #[.val (.long qa), .second, .val (.long qb), .second, .val (.long qd), .second, .val (.int vc), .val (.int vk), .val (.long qq), .second, .val (.int nk), .val (.long q1), .second, .val (.long q2), .second, .val (.long q3), .second, .val (.long qe1), .second, .val (.long qe2), .second, .val (.long qr), .second, .val (.ref b30), .val (.long tt3), .second, .unset, .unset] [(.int zr)])) t → Steps p.tables e below (s₁.setTop (entryFrame m #[(.long qa), (.long qb), (.long qd), (.int vc), (.int vk), (.long qq)] maxLocals)) t := fun t kt => by
              refine pre286 _ ?_
              refine XS.lstore X238.here hx rfl (hb hby at_184) rfl (l' := #[.val (.long qa), .second, .val (.long qb), .second, .val (.long qd), .second, .val (.int vc), .val (.int vk), .val (.long qq), .second, .val (.int nk), .val (.long q1), .second, .val (.long q2), .second, .val (.long q3), .second, .val (.long qe1), .second, .val (.long qe2), .second, .val (.long qr), .second, .val (.ref b30), .val (.long tt3), .second, .unset, .unset]) rfl ?_
              show Steps p.tables e below (T238.setTop (mkF m 186 #[.val (.long qa), .second, .val (.long qb), .second, .val (.long qd), .second, .val (.int vc), .val (.int vk), .val (.long qq), .second, .val (.int nk), .val (.long q1), .second, .val (.long q2), .second, .val (.long q3), .second, .val (.long qe1), .second, .val (.long qe2), .second, .val (.long qr), .second, .val (.ref b30), .val (.long tt3), .second, .unset, .unset] [])) _
              refine XS.aload X238.here hx rfl (hb hby at_186) rfl rfl ?_
              refine XS.lload X238.here hx rfl (hb hby at_188) rfl ?_
              refine st287.trans ?_
              exact kt
            rcases hzr with ⟨rfl, hz0⟩ | ⟨rfl, hz0, hz1⟩ | ⟨rfl, hz0, hz1⟩ | ⟨rfl, hz0⟩
            · have pre289 : ∀ t, Steps p.tables e below (T287.setTop (mkF m 193 #[.val (.long qa), .second, .val (.long qb), .second, .val (.long qd), .second, .val (.int vc), .val (.int vk), .val (.long qq), .second, .val (.int nk), .val (.long q1), .second, .val (.long q2), .second, .val (.long q3), .second, .val (.long qe1), .second, .val (.long qe2), .second, .val (.long qr), .second, .val (.ref b30), .val (.long tt3), .second, .unset, .unset] [(.int (0 : Int32))])) t → Steps p.tables e below (s₁.setTop (entryFrame m #[(.long qa), (.long qb), (.long qd), (.int vc), (.int vk), (.long qq)] maxLocals)) t := pre288
              obtain ⟨cq290, kq290, q290a, q290b, q290c⟩ := isOf hZ e287 A238
              obtain ⟨_, _, ⟨T290, L290, k290, n290⟩, -, X290, ⟨Lc290, hQ290, l290, y290, z290⟩, st290⟩ := X287.virtualBack hx (y := (⟨"com/example/foreslot/foreslot/CountsByEnd", "size", "()I"⟩ : MethodName)) (z := (⟨"com/example/foreslot/foreslot/CountsByEnd", "size", "()I"⟩ : MethodName)) hown (mvT hZ (hw _ (List.mem_of_getElem? (i := 40) rfl))) (mvT hZ (hw _ (List.mem_of_getElem? (i := 41) rfl))) (notFace_of_selects (args := #[]) (mvT hZ (hw _ (List.mem_of_getElem? (i := 43) rfl)))) (mvT hZ (hw _ (List.mem_of_getElem? (i := 43) rfl))) (mvT hZ (hw _ (List.mem_of_getElem? (i := 42) rfl))) (by decide) (backOf (W := 0) (rm_sz3 l Z a0 hw [] b30 ea ca kE kC y241_0 y241_1 y241_2 d241_0 d241_1 d241_2 T238.heap n0 Zs239 A238 Fe238 Fc238 F2_241 V0_241 V1_241) hZ (hw _ (List.mem_of_getElem? (i := 44) rfl)) (hw _ (List.mem_of_getElem? (i := 2) rfl)) (by decide) (by decide)) q290a q290c (g := (mkF m 197 #[.val (.long qa), .second, .val (.long qb), .second, .val (.long qd), .second, .val (.int vc), .val (.int vk), .val (.long qq), .second, .val (.int nk), .val (.long q1), .second, .val (.long q2), .second, .val (.long q3), .second, .val (.long qe1), .second, .val (.long qe2), .second, .val (.long qr), .second, .val (.ref b30), .val (.long tt3), .second, .val (.int (0 : Int32)), .unset] [(.ref b30)])) rfl (by rw [hml]; rfl) (Steps.refl _) (argsL := []) (rest := []) (lenOf pd_4 rfl) rfl (by show 2 * 0 + _ ≤ _; exact Nat.le_of_eq rfl) (hb hby at_197) (fun _ _ => ⟨rfl, e287, (by decide : 3 + 0 ≤ _), (by decide : 35 + 0 ≤ _)⟩)
              dsimp only [Pt.U, Pt.locs, Pt.cells, Pt.slots] at X290 l290 y290 z290 st290 hQ290
              subst l290 y290 z290
              obtain ⟨zs, rfl, hzs, N290q, e290⟩ := hQ290
              have N290 := Fr.app N287 N290q
              have pre291 : ∀ t, Steps p.tables e below (T290.setTop (mkF m 200 #[.val (.long qa), .second, .val (.long qb), .second, .val (.long qd), .second, .val (.int vc), .val (.int vk), .val (.long qq), .second, .val (.int nk), .val (.long q1), .second, .val (.long q2), .second, .val (.long q3), .second, .val (.long qe1), .second, .val (.long qe2), .second, .val (.long qr), .second, .val (.ref b30), .val (.long tt3), .second, .val (.int (0 : Int32)), .unset] [(.int zs)])) t → Steps p.tables e below (s₁.setTop (entryFrame m #[(.long qa), (.long qb), (.long qd), (.int vc), (.int vk), (.long qq)] maxLocals)) t := fun t kt => by
                refine pre289 _ ?_
                refine XS.istore X287.here hx rfl (hb hby at_193) rfl (l' := #[.val (.long qa), .second, .val (.long qb), .second, .val (.long qd), .second, .val (.int vc), .val (.int vk), .val (.long qq), .second, .val (.int nk), .val (.long q1), .second, .val (.long q2), .second, .val (.long q3), .second, .val (.long qe1), .second, .val (.long qe2), .second, .val (.long qr), .second, .val (.ref b30), .val (.long tt3), .second, .val (.int (0 : Int32)), .unset]) rfl ?_
                refine XS.aload X287.here hx rfl (hb hby at_195) rfl rfl ?_
                show Steps p.tables e below (T287.setTop (mkF m 197 #[.val (.long qa), .second, .val (.long qb), .second, .val (.long qd), .second, .val (.int vc), .val (.int vk), .val (.long qq), .second, .val (.int nk), .val (.long q1), .second, .val (.long q2), .second, .val (.long q3), .second, .val (.long qe1), .second, .val (.long qe2), .second, .val (.long qr), .second, .val (.ref b30), .val (.long tt3), .second, .val (.int (0 : Int32)), .unset] [(.ref b30)])) _
                refine st290.trans ?_
                exact kt
              subst hzs
              have pre292 : ∀ t, Steps p.tables e below (T290.setTop (mkF m 200 #[.val (.long qa), .second, .val (.long qb), .second, .val (.long qd), .second, .val (.int vc), .val (.int vk), .val (.long qq), .second, .val (.int nk), .val (.long q1), .second, .val (.long q2), .second, .val (.long q3), .second, .val (.long qe1), .second, .val (.long qe2), .second, .val (.long qr), .second, .val (.ref b30), .val (.long tt3), .second, .val (.int (0 : Int32)), .unset] [(.int (3 : Int32))])) t → Steps p.tables e below (s₁.setTop (entryFrame m #[(.long qa), (.long qb), (.long qd), (.int vc), (.int vk), (.long qq)] maxLocals)) t := pre291
              have hc204_293 : ¬ ((0 : Int) < (0 : Int)) := by decide
              have hc211_294 : ¬ ((3 : Int) < (0 : Int)) := by decide
              have hc220_295 : (0 : Int) < (3 : Int) := by decide
              obtain ⟨cq296, kq296, q296a, q296b, q296c⟩ := isOf hZ e290 A238
              obtain ⟨_, _, ⟨T296, L296, k296, n296⟩, -, X296, ⟨Lc296, hQ296, l296, y296, z296⟩, st296⟩ := X290.virtualBack hx (y := (⟨"com/example/foreslot/foreslot/CountsByEnd", "end", "(I)J"⟩ : MethodName)) (z := (⟨"com/example/foreslot/foreslot/CountsByEnd", "end", "(I)J"⟩ : MethodName)) hown (mvT hZ (hw _ (List.mem_of_getElem? (i := 45) rfl))) (mvT hZ (hw _ (List.mem_of_getElem? (i := 46) rfl))) (notFace_of_selects (args := #[]) (mvT hZ (hw _ (List.mem_of_getElem? (i := 48) rfl)))) (mvT hZ (hw _ (List.mem_of_getElem? (i := 48) rfl))) (mvT hZ (hw _ (List.mem_of_getElem? (i := 47) rfl))) (by decide) (backOf (W := 1) (rm_e3_0 l Z a0 hw [] b30 ea ca kE kC y241_0 y241_1 y241_2 d241_0 d241_1 d241_2 T238.heap n0 Zs239 A238 Fe238 Fc238 F2_241 V0_241 V1_241) hZ (hw _ (List.mem_of_getElem? (i := 49) rfl)) (hw _ (List.mem_of_getElem? (i := 2) rfl)) (by decide) (by decide)) q296a q296c (g := (mkF m 229 #[.val (.long qa), .second, .val (.long qb), .second, .val (.long qd), .second, .val (.int vc), .val (.int vk), .val (.long qq), .second, .val (.int nk), .val (.long q1), .second, .val (.long q2), .second, .val (.long q3), .second, .val (.long qe1), .second, .val (.long qe2), .second, .val (.long qr), .second, .val (.ref b30), .val (.long tt3), .second, .val (.int (0 : Int32)), .val (.int (3 : Int32))] [(.int (0 : Int32)), (.ref b30), (.ref b30)])) rfl (by rw [hml]; rfl) (Steps.refl _) (argsL := [(.int (0 : Int32))]) (rest := [(.ref b30)]) (lenOf pd_6 rfl) rfl (by show 2 * 0 + _ ≤ _; exact Nat.le_of_eq rfl) (hb hby at_229) (fun _ _ => ⟨rfl, e290, (by decide : 3 + 0 ≤ _), (by decide : 35 + 0 ≤ _)⟩)
              dsimp only [Pt.U, Pt.locs, Pt.cells, Pt.slots] at X296 l296 y296 z296 st296 hQ296
              subst l296 y296 z296
              obtain ⟨ze, rfl, hze, N296q, e296⟩ := hQ296
              have N296 := Fr.app N290 N296q
              obtain ⟨cq297, kq297, q297a, q297b, q297c⟩ := isOf hZ e296 A238
              obtain ⟨_, _, ⟨T297, L297, k297, n297⟩, -, X297, ⟨Lc297, hQ297, l297, y297, z297⟩, st297⟩ := X296.virtualBack hx (y := (⟨"com/example/foreslot/foreslot/CountsByEnd", "heldUntilAtLatest", "(J)J"⟩ : MethodName)) (z := (⟨"com/example/foreslot/foreslot/CountsByEnd", "heldUntilAtLatest", "(J)J"⟩ : MethodName)) hown (mvT hZ (hw _ (List.mem_of_getElem? (i := 50) rfl))) (mvT hZ (hw _ (List.mem_of_getElem? (i := 51) rfl))) (notFace_of_selects (args := #[]) (mvT hZ (hw _ (List.mem_of_getElem? (i := 53) rfl)))) (mvT hZ (hw _ (List.mem_of_getElem? (i := 53) rfl))) (mvT hZ (hw _ (List.mem_of_getElem? (i := 52) rfl))) (by decide) (backOf (W := 0) (rm_h3 l Z a0 hw [] b30 ze ea ca kE kC y241_0 y241_1 y241_2 d241_0 d241_1 d241_2 T238.heap n0 Zs239 A238 Fe238 Fc238 F2_241 V0_241 V1_241 (by omega) (by omega) (by omega) (by omega) (by omega) (by omega)) hZ (hw _ (List.mem_of_getElem? (i := 54) rfl)) (hw _ (List.mem_of_getElem? (i := 2) rfl)) (by decide) (by decide)) q297a q297c (g := (mkF m 232 #[.val (.long qa), .second, .val (.long qb), .second, .val (.long qd), .second, .val (.int vc), .val (.int vk), .val (.long qq), .second, .val (.int nk), .val (.long q1), .second, .val (.long q2), .second, .val (.long q3), .second, .val (.long qe1), .second, .val (.long qe2), .second, .val (.long qr), .second, .val (.ref b30), .val (.long tt3), .second, .val (.int (0 : Int32)), .val (.int (3 : Int32))] [(.long ze), (.ref b30)])) rfl (by rw [hml]; rfl) (Steps.refl _) (argsL := [(.long ze)]) (rest := []) (lenOf pd_7 rfl) rfl (by show 2 * 0 + _ ≤ _; exact Nat.le_of_eq rfl) (hb hby at_232) (fun _ _ => ⟨rfl, e296, (by decide : 3 + 0 ≤ _), (by decide : 35 + 0 ≤ _)⟩)
              dsimp only [Pt.U, Pt.locs, Pt.cells, Pt.slots] at X297 l297 y297 z297 st297 hQ297
              subst l297 y297 z297
              obtain ⟨hd, rfl, hhd, N297q, e297⟩ := hQ297
              have N297 := Fr.app N296 N297q
              have hc238_298 : ¬ (hd.toInt < qr.toInt) := by rw [own_fp (x := y241_0.toInt) (by omega), own_fn (x := y241_1.toInt) (by omega), own_fn (x := y241_2.toInt) (by omega)] at hhd; omega
              have hc260_299 : ¬ ((0 : Int) < (0 : Int)) := by decide
              obtain ⟨fs, hr, hrun, hended, hW, hsame⟩ := X297.leave (v := some (.int (1 : Int32))) (fun h => by rw [Bd.returns] at h; cases h)
              refine ⟨_, _, pre292 _ ?_, hrun, hended, _, _, rfl, ?_, ⟨_, rfl⟩, hW, hsame.mono (by decide) (by decide)⟩
              · refine XS.istore X290.here hx rfl (hb hby at_200) rfl (l' := #[.val (.long qa), .second, .val (.long qb), .second, .val (.long qd), .second, .val (.int vc), .val (.int vk), .val (.long qq), .second, .val (.int nk), .val (.long q1), .second, .val (.long q2), .second, .val (.long q3), .second, .val (.long qe1), .second, .val (.long qe2), .second, .val (.long qr), .second, .val (.ref b30), .val (.long tt3), .second, .val (.int (0 : Int32)), .val (.int (3 : Int32))]) rfl ?_
                refine XS.iload X290.here hx rfl (hb hby at_202) rfl ?_
                refine XS.ifNo X290.here hx rfl (hb hby at_204) rfl (own_if (own_flt (a := (0 : Int32)) (b := (0 : Int32)) (by decide) (by decide) hc204_293).1) ?_
                refine XS.iload X290.here hx rfl (hb hby at_207) rfl ?_
                show Steps p.tables e below (T290.setTop (mkF m 209 #[.val (.long qa), .second, .val (.long qb), .second, .val (.long qd), .second, .val (.int vc), .val (.int vk), .val (.long qq), .second, .val (.int nk), .val (.long q1), .second, .val (.long q2), .second, .val (.long q3), .second, .val (.long qe1), .second, .val (.long qe2), .second, .val (.long qr), .second, .val (.ref b30), .val (.long tt3), .second, .val (.int (0 : Int32)), .val (.int (3 : Int32))] [(.int (0 : Int32))])) _
                refine XS.iload X290.here hx rfl (hb hby at_209) rfl ?_
                refine XS.icmpYes X290.here hx rfl (pc0 := 211) (pc' := 216) rfl (hb hby at_211) rfl (own_flt (a := (3 : Int32)) (b := (0 : Int32)) (by decide) (by decide) hc211_294).2.2.2 (by decide) (by decide) ?_
                refine XS.iload X290.here hx rfl (hb hby at_216) rfl ?_
                refine XS.iload X290.here hx rfl (hb hby at_218) rfl ?_
                refine XS.icmpNo X290.here hx rfl (hb hby at_220) rfl (own_tlt (a := (0 : Int32)) (b := (3 : Int32)) (by decide) (by decide) hc220_295).2.1 ?_
                show Steps p.tables e below (T290.setTop (mkF m 223 #[.val (.long qa), .second, .val (.long qb), .second, .val (.long qd), .second, .val (.int vc), .val (.int vk), .val (.long qq), .second, .val (.int nk), .val (.long q1), .second, .val (.long q2), .second, .val (.long q3), .second, .val (.long qe1), .second, .val (.long qe2), .second, .val (.long qr), .second, .val (.ref b30), .val (.long tt3), .second, .val (.int (0 : Int32)), .val (.int (3 : Int32))] [])) _
                refine XS.aload X290.here hx rfl (hb hby at_223) rfl rfl ?_
                refine XS.aload X290.here hx rfl (hb hby at_225) rfl rfl ?_
                refine XS.iload X290.here hx rfl (hb hby at_227) rfl ?_
                refine st296.trans ?_
                refine st297.trans ?_
                show Steps p.tables e below (T297.setTop (mkF m 235 #[.val (.long qa), .second, .val (.long qb), .second, .val (.long qd), .second, .val (.int vc), .val (.int vk), .val (.long qq), .second, .val (.int nk), .val (.long q1), .second, .val (.long q2), .second, .val (.long q3), .second, .val (.long qe1), .second, .val (.long qe2), .second, .val (.long qr), .second, .val (.ref b30), .val (.long tt3), .second, .val (.int (0 : Int32)), .val (.int (3 : Int32))] [(.long hd)])) _
                refine XS.lload X297.here hx rfl (hb hby at_235) rfl ?_
                refine XS.lcmp X297.here hx rfl (hb hby at_237) rfl ?_
                refine XS.ifYes X297.here hx rfl (pc0 := 238) (pc' := 258) rfl (hb hby at_238) rfl (own_if (own_fltL (x := hd) (y := qr) rfl rfl hc238_298).2) (by decide) (by decide) ?_
                refine XS.iload X297.here hx rfl (hb hby at_258) rfl ?_
                refine XS.ifYes X297.here hx rfl (pc0 := 260) (pc' := 285) rfl (hb hby at_260) rfl (own_if (own_flt (a := (0 : Int32)) (b := (0 : Int32)) (by decide) (by decide) hc260_299).2.2.2) (by decide) (by decide) ?_
                show Steps p.tables e below (T297.setTop (mkF m 285 #[.val (.long qa), .second, .val (.long qb), .second, .val (.long qd), .second, .val (.int vc), .val (.int vk), .val (.long qq), .second, .val (.int nk), .val (.long q1), .second, .val (.long q2), .second, .val (.long q3), .second, .val (.long qe1), .second, .val (.long qe2), .second, .val (.long qr), .second, .val (.ref b30), .val (.long tt3), .second, .val (.int (0 : Int32)), .val (.int (3 : Int32))] [])) _
                refine XS.iconst X297.here hx rfl (hb hby at_285) ?_
                exact retN X297 hx (t := .boolean) Bd.returns (by simp) (hb hby at_286) hr
              · show Q0 Z qa qb qd vc vk qq h0 n0 _ T297.heap _
                rw [e297]
                exact ⟨rfl, N297⟩
            · have pre300 : ∀ t, Steps p.tables e below (T287.setTop (mkF m 193 #[.val (.long qa), .second, .val (.long qb), .second, .val (.long qd), .second, .val (.int vc), .val (.int vk), .val (.long qq), .second, .val (.int nk), .val (.long q1), .second, .val (.long q2), .second, .val (.long q3), .second, .val (.long qe1), .second, .val (.long qe2), .second, .val (.long qr), .second, .val (.ref b30), .val (.long tt3), .second, .unset, .unset] [(.int (1 : Int32))])) t → Steps p.tables e below (s₁.setTop (entryFrame m #[(.long qa), (.long qb), (.long qd), (.int vc), (.int vk), (.long qq)] maxLocals)) t := pre288
              obtain ⟨cq301, kq301, q301a, q301b, q301c⟩ := isOf hZ e287 A238
              obtain ⟨_, _, ⟨T301, L301, k301, n301⟩, -, X301, ⟨Lc301, hQ301, l301, y301, z301⟩, st301⟩ := X287.virtualBack hx (y := (⟨"com/example/foreslot/foreslot/CountsByEnd", "size", "()I"⟩ : MethodName)) (z := (⟨"com/example/foreslot/foreslot/CountsByEnd", "size", "()I"⟩ : MethodName)) hown (mvT hZ (hw _ (List.mem_of_getElem? (i := 40) rfl))) (mvT hZ (hw _ (List.mem_of_getElem? (i := 41) rfl))) (notFace_of_selects (args := #[]) (mvT hZ (hw _ (List.mem_of_getElem? (i := 43) rfl)))) (mvT hZ (hw _ (List.mem_of_getElem? (i := 43) rfl))) (mvT hZ (hw _ (List.mem_of_getElem? (i := 42) rfl))) (by decide) (backOf (W := 0) (rm_sz3 l Z a0 hw [] b30 ea ca kE kC y241_0 y241_1 y241_2 d241_0 d241_1 d241_2 T238.heap n0 Zs239 A238 Fe238 Fc238 F2_241 V0_241 V1_241) hZ (hw _ (List.mem_of_getElem? (i := 44) rfl)) (hw _ (List.mem_of_getElem? (i := 2) rfl)) (by decide) (by decide)) q301a q301c (g := (mkF m 197 #[.val (.long qa), .second, .val (.long qb), .second, .val (.long qd), .second, .val (.int vc), .val (.int vk), .val (.long qq), .second, .val (.int nk), .val (.long q1), .second, .val (.long q2), .second, .val (.long q3), .second, .val (.long qe1), .second, .val (.long qe2), .second, .val (.long qr), .second, .val (.ref b30), .val (.long tt3), .second, .val (.int (1 : Int32)), .unset] [(.ref b30)])) rfl (by rw [hml]; rfl) (Steps.refl _) (argsL := []) (rest := []) (lenOf pd_4 rfl) rfl (by show 2 * 0 + _ ≤ _; exact Nat.le_of_eq rfl) (hb hby at_197) (fun _ _ => ⟨rfl, e287, (by decide : 3 + 0 ≤ _), (by decide : 35 + 0 ≤ _)⟩)
              dsimp only [Pt.U, Pt.locs, Pt.cells, Pt.slots] at X301 l301 y301 z301 st301 hQ301
              subst l301 y301 z301
              obtain ⟨zs, rfl, hzs, N301q, e301⟩ := hQ301
              have N301 := Fr.app N287 N301q
              have pre302 : ∀ t, Steps p.tables e below (T301.setTop (mkF m 200 #[.val (.long qa), .second, .val (.long qb), .second, .val (.long qd), .second, .val (.int vc), .val (.int vk), .val (.long qq), .second, .val (.int nk), .val (.long q1), .second, .val (.long q2), .second, .val (.long q3), .second, .val (.long qe1), .second, .val (.long qe2), .second, .val (.long qr), .second, .val (.ref b30), .val (.long tt3), .second, .val (.int (1 : Int32)), .unset] [(.int zs)])) t → Steps p.tables e below (s₁.setTop (entryFrame m #[(.long qa), (.long qb), (.long qd), (.int vc), (.int vk), (.long qq)] maxLocals)) t := fun t kt => by
                refine pre300 _ ?_
                refine XS.istore X287.here hx rfl (hb hby at_193) rfl (l' := #[.val (.long qa), .second, .val (.long qb), .second, .val (.long qd), .second, .val (.int vc), .val (.int vk), .val (.long qq), .second, .val (.int nk), .val (.long q1), .second, .val (.long q2), .second, .val (.long q3), .second, .val (.long qe1), .second, .val (.long qe2), .second, .val (.long qr), .second, .val (.ref b30), .val (.long tt3), .second, .val (.int (1 : Int32)), .unset]) rfl ?_
                refine XS.aload X287.here hx rfl (hb hby at_195) rfl rfl ?_
                show Steps p.tables e below (T287.setTop (mkF m 197 #[.val (.long qa), .second, .val (.long qb), .second, .val (.long qd), .second, .val (.int vc), .val (.int vk), .val (.long qq), .second, .val (.int nk), .val (.long q1), .second, .val (.long q2), .second, .val (.long q3), .second, .val (.long qe1), .second, .val (.long qe2), .second, .val (.long qr), .second, .val (.ref b30), .val (.long tt3), .second, .val (.int (1 : Int32)), .unset] [(.ref b30)])) _
                refine st301.trans ?_
                exact kt
              subst hzs
              have pre303 : ∀ t, Steps p.tables e below (T301.setTop (mkF m 200 #[.val (.long qa), .second, .val (.long qb), .second, .val (.long qd), .second, .val (.int vc), .val (.int vk), .val (.long qq), .second, .val (.int nk), .val (.long q1), .second, .val (.long q2), .second, .val (.long q3), .second, .val (.long qe1), .second, .val (.long qe2), .second, .val (.long qr), .second, .val (.ref b30), .val (.long tt3), .second, .val (.int (1 : Int32)), .unset] [(.int (3 : Int32))])) t → Steps p.tables e below (s₁.setTop (entryFrame m #[(.long qa), (.long qb), (.long qd), (.int vc), (.int vk), (.long qq)] maxLocals)) t := pre302
              have hc204_304 : ¬ ((1 : Int) < (0 : Int)) := by decide
              have hc211_305 : ¬ ((3 : Int) < (1 : Int)) := by decide
              have hc220_306 : (1 : Int) < (3 : Int) := by decide
              obtain ⟨cq307, kq307, q307a, q307b, q307c⟩ := isOf hZ e301 A238
              obtain ⟨_, _, ⟨T307, L307, k307, n307⟩, -, X307, ⟨Lc307, hQ307, l307, y307, z307⟩, st307⟩ := X301.virtualBack hx (y := (⟨"com/example/foreslot/foreslot/CountsByEnd", "end", "(I)J"⟩ : MethodName)) (z := (⟨"com/example/foreslot/foreslot/CountsByEnd", "end", "(I)J"⟩ : MethodName)) hown (mvT hZ (hw _ (List.mem_of_getElem? (i := 45) rfl))) (mvT hZ (hw _ (List.mem_of_getElem? (i := 46) rfl))) (notFace_of_selects (args := #[]) (mvT hZ (hw _ (List.mem_of_getElem? (i := 48) rfl)))) (mvT hZ (hw _ (List.mem_of_getElem? (i := 48) rfl))) (mvT hZ (hw _ (List.mem_of_getElem? (i := 47) rfl))) (by decide) (backOf (W := 1) (rm_e3_1 l Z a0 hw [] b30 ea ca kE kC y241_0 y241_1 y241_2 d241_0 d241_1 d241_2 T238.heap n0 Zs239 A238 Fe238 Fc238 F2_241 V0_241 V1_241) hZ (hw _ (List.mem_of_getElem? (i := 49) rfl)) (hw _ (List.mem_of_getElem? (i := 2) rfl)) (by decide) (by decide)) q307a q307c (g := (mkF m 229 #[.val (.long qa), .second, .val (.long qb), .second, .val (.long qd), .second, .val (.int vc), .val (.int vk), .val (.long qq), .second, .val (.int nk), .val (.long q1), .second, .val (.long q2), .second, .val (.long q3), .second, .val (.long qe1), .second, .val (.long qe2), .second, .val (.long qr), .second, .val (.ref b30), .val (.long tt3), .second, .val (.int (1 : Int32)), .val (.int (3 : Int32))] [(.int (1 : Int32)), (.ref b30), (.ref b30)])) rfl (by rw [hml]; rfl) (Steps.refl _) (argsL := [(.int (1 : Int32))]) (rest := [(.ref b30)]) (lenOf pd_6 rfl) rfl (by show 2 * 0 + _ ≤ _; exact Nat.le_of_eq rfl) (hb hby at_229) (fun _ _ => ⟨rfl, e301, (by decide : 3 + 0 ≤ _), (by decide : 35 + 0 ≤ _)⟩)
              dsimp only [Pt.U, Pt.locs, Pt.cells, Pt.slots] at X307 l307 y307 z307 st307 hQ307
              subst l307 y307 z307
              obtain ⟨ze, rfl, hze, N307q, e307⟩ := hQ307
              have N307 := Fr.app N301 N307q
              obtain ⟨cq308, kq308, q308a, q308b, q308c⟩ := isOf hZ e307 A238
              obtain ⟨_, _, ⟨T308, L308, k308, n308⟩, -, X308, ⟨Lc308, hQ308, l308, y308, z308⟩, st308⟩ := X307.virtualBack hx (y := (⟨"com/example/foreslot/foreslot/CountsByEnd", "heldUntilAtLatest", "(J)J"⟩ : MethodName)) (z := (⟨"com/example/foreslot/foreslot/CountsByEnd", "heldUntilAtLatest", "(J)J"⟩ : MethodName)) hown (mvT hZ (hw _ (List.mem_of_getElem? (i := 50) rfl))) (mvT hZ (hw _ (List.mem_of_getElem? (i := 51) rfl))) (notFace_of_selects (args := #[]) (mvT hZ (hw _ (List.mem_of_getElem? (i := 53) rfl)))) (mvT hZ (hw _ (List.mem_of_getElem? (i := 53) rfl))) (mvT hZ (hw _ (List.mem_of_getElem? (i := 52) rfl))) (by decide) (backOf (W := 0) (rm_h3 l Z a0 hw [] b30 ze ea ca kE kC y241_0 y241_1 y241_2 d241_0 d241_1 d241_2 T238.heap n0 Zs239 A238 Fe238 Fc238 F2_241 V0_241 V1_241 (by omega) (by omega) (by omega) (by omega) (by omega) (by omega)) hZ (hw _ (List.mem_of_getElem? (i := 54) rfl)) (hw _ (List.mem_of_getElem? (i := 2) rfl)) (by decide) (by decide)) q308a q308c (g := (mkF m 232 #[.val (.long qa), .second, .val (.long qb), .second, .val (.long qd), .second, .val (.int vc), .val (.int vk), .val (.long qq), .second, .val (.int nk), .val (.long q1), .second, .val (.long q2), .second, .val (.long q3), .second, .val (.long qe1), .second, .val (.long qe2), .second, .val (.long qr), .second, .val (.ref b30), .val (.long tt3), .second, .val (.int (1 : Int32)), .val (.int (3 : Int32))] [(.long ze), (.ref b30)])) rfl (by rw [hml]; rfl) (Steps.refl _) (argsL := [(.long ze)]) (rest := []) (lenOf pd_7 rfl) rfl (by show 2 * 0 + _ ≤ _; exact Nat.le_of_eq rfl) (hb hby at_232) (fun _ _ => ⟨rfl, e307, (by decide : 3 + 0 ≤ _), (by decide : 35 + 0 ≤ _)⟩)
              dsimp only [Pt.U, Pt.locs, Pt.cells, Pt.slots] at X308 l308 y308 z308 st308 hQ308
              subst l308 y308 z308
              obtain ⟨hd, rfl, hhd, N308q, e308⟩ := hQ308
              have N308 := Fr.app N307 N308q
              have hc238_309 : ¬ (hd.toInt < qr.toInt) := by rw [own_fp (x := y241_0.toInt) (by omega), own_fp (x := y241_1.toInt) (by omega), own_fn (x := y241_2.toInt) (by omega)] at hhd; omega
              have hc260_310 : (0 : Int) < (1 : Int) := by decide
              obtain ⟨cq311, kq311, q311a, q311b, q311c⟩ := isOf hZ e308 A238
              obtain ⟨_, _, ⟨T311, L311, k311, n311⟩, -, X311, ⟨Lc311, hQ311, l311, y311, z311⟩, st311⟩ := X308.virtualBack hx (y := (⟨"com/example/foreslot/foreslot/CountsByEnd", "end", "(I)J"⟩ : MethodName)) (z := (⟨"com/example/foreslot/foreslot/CountsByEnd", "end", "(I)J"⟩ : MethodName)) hown (mvT hZ (hw _ (List.mem_of_getElem? (i := 45) rfl))) (mvT hZ (hw _ (List.mem_of_getElem? (i := 46) rfl))) (notFace_of_selects (args := #[]) (mvT hZ (hw _ (List.mem_of_getElem? (i := 48) rfl)))) (mvT hZ (hw _ (List.mem_of_getElem? (i := 48) rfl))) (mvT hZ (hw _ (List.mem_of_getElem? (i := 47) rfl))) (by decide) (backOf (W := 1) (rm_e3_0 l Z a0 hw [] b30 ea ca kE kC y241_0 y241_1 y241_2 d241_0 d241_1 d241_2 T238.heap n0 Zs239 A238 Fe238 Fc238 F2_241 V0_241 V1_241) hZ (hw _ (List.mem_of_getElem? (i := 49) rfl)) (hw _ (List.mem_of_getElem? (i := 2) rfl)) (by decide) (by decide)) q311a q311c (g := (mkF m 271 #[.val (.long qa), .second, .val (.long qb), .second, .val (.long qd), .second, .val (.int vc), .val (.int vk), .val (.long qq), .second, .val (.int nk), .val (.long q1), .second, .val (.long q2), .second, .val (.long q3), .second, .val (.long qe1), .second, .val (.long qe2), .second, .val (.long qr), .second, .val (.ref b30), .val (.long tt3), .second, .val (.int (1 : Int32)), .val (.int (3 : Int32))] [(.int (0 : Int32)), (.ref b30), (.ref b30)])) rfl (by rw [hml]; rfl) (Steps.refl _) (argsL := [(.int (0 : Int32))]) (rest := [(.ref b30)]) (lenOf pd_6 rfl) rfl (by show 2 * 0 + _ ≤ _; exact Nat.le_of_eq rfl) (hb hby at_271) (fun _ _ => ⟨rfl, e308, (by decide : 3 + 0 ≤ _), (by decide : 35 + 0 ≤ _)⟩)
              dsimp only [Pt.U, Pt.locs, Pt.cells, Pt.slots] at X311 l311 y311 z311 st311 hQ311
              subst l311 y311 z311
              obtain ⟨zf, rfl, hzf, N311q, e311⟩ := hQ311
              have N311 := Fr.app N308 N311q
              obtain ⟨cq312, kq312, q312a, q312b, q312c⟩ := isOf hZ e311 A238
              obtain ⟨_, _, ⟨T312, L312, k312, n312⟩, -, X312, ⟨Lc312, hQ312, l312, y312, z312⟩, st312⟩ := X311.virtualBack hx (y := (⟨"com/example/foreslot/foreslot/CountsByEnd", "heldUntilAtLatest", "(J)J"⟩ : MethodName)) (z := (⟨"com/example/foreslot/foreslot/CountsByEnd", "heldUntilAtLatest", "(J)J"⟩ : MethodName)) hown (mvT hZ (hw _ (List.mem_of_getElem? (i := 50) rfl))) (mvT hZ (hw _ (List.mem_of_getElem? (i := 51) rfl))) (notFace_of_selects (args := #[]) (mvT hZ (hw _ (List.mem_of_getElem? (i := 53) rfl)))) (mvT hZ (hw _ (List.mem_of_getElem? (i := 53) rfl))) (mvT hZ (hw _ (List.mem_of_getElem? (i := 52) rfl))) (by decide) (backOf (W := 0) (rm_h3 l Z a0 hw [] b30 zf ea ca kE kC y241_0 y241_1 y241_2 d241_0 d241_1 d241_2 T238.heap n0 Zs239 A238 Fe238 Fc238 F2_241 V0_241 V1_241 (by omega) (by omega) (by omega) (by omega) (by omega) (by omega)) hZ (hw _ (List.mem_of_getElem? (i := 54) rfl)) (hw _ (List.mem_of_getElem? (i := 2) rfl)) (by decide) (by decide)) q312a q312c (g := (mkF m 274 #[.val (.long qa), .second, .val (.long qb), .second, .val (.long qd), .second, .val (.int vc), .val (.int vk), .val (.long qq), .second, .val (.int nk), .val (.long q1), .second, .val (.long q2), .second, .val (.long q3), .second, .val (.long qe1), .second, .val (.long qe2), .second, .val (.long qr), .second, .val (.ref b30), .val (.long tt3), .second, .val (.int (1 : Int32)), .val (.int (3 : Int32))] [(.long zf), (.ref b30)])) rfl (by rw [hml]; rfl) (Steps.refl _) (argsL := [(.long zf)]) (rest := []) (lenOf pd_7 rfl) rfl (by show 2 * 0 + _ ≤ _; exact Nat.le_of_eq rfl) (hb hby at_274) (fun _ _ => ⟨rfl, e311, (by decide : 3 + 0 ≤ _), (by decide : 35 + 0 ≤ _)⟩)
              dsimp only [Pt.U, Pt.locs, Pt.cells, Pt.slots] at X312 l312 y312 z312 st312 hQ312
              subst l312 y312 z312
              obtain ⟨hf, rfl, hhf, N312q, e312⟩ := hQ312
              have N312 := Fr.app N311 N312q
              have hc280_313 : hf.toInt < qr.toInt := by rw [own_fp (x := y241_0.toInt) (by omega), own_fn (x := y241_1.toInt) (by omega), own_fn (x := y241_2.toInt) (by omega)] at hhf; omega
              obtain ⟨fs, hr, hrun, hended, hW, hsame⟩ := X312.leave (v := some (.int (1 : Int32))) (fun h => by rw [Bd.returns] at h; cases h)
              refine ⟨_, _, pre303 _ ?_, hrun, hended, _, _, rfl, ?_, ⟨_, rfl⟩, hW, hsame.mono (by decide) (by decide)⟩
              · refine XS.istore X301.here hx rfl (hb hby at_200) rfl (l' := #[.val (.long qa), .second, .val (.long qb), .second, .val (.long qd), .second, .val (.int vc), .val (.int vk), .val (.long qq), .second, .val (.int nk), .val (.long q1), .second, .val (.long q2), .second, .val (.long q3), .second, .val (.long qe1), .second, .val (.long qe2), .second, .val (.long qr), .second, .val (.ref b30), .val (.long tt3), .second, .val (.int (1 : Int32)), .val (.int (3 : Int32))]) rfl ?_
                refine XS.iload X301.here hx rfl (hb hby at_202) rfl ?_
                refine XS.ifNo X301.here hx rfl (hb hby at_204) rfl (own_if (own_flt (a := (1 : Int32)) (b := (0 : Int32)) (by decide) (by decide) hc204_304).1) ?_
                refine XS.iload X301.here hx rfl (hb hby at_207) rfl ?_
                show Steps p.tables e below (T301.setTop (mkF m 209 #[.val (.long qa), .second, .val (.long qb), .second, .val (.long qd), .second, .val (.int vc), .val (.int vk), .val (.long qq), .second, .val (.int nk), .val (.long q1), .second, .val (.long q2), .second, .val (.long q3), .second, .val (.long qe1), .second, .val (.long qe2), .second, .val (.long qr), .second, .val (.ref b30), .val (.long tt3), .second, .val (.int (1 : Int32)), .val (.int (3 : Int32))] [(.int (1 : Int32))])) _
                refine XS.iload X301.here hx rfl (hb hby at_209) rfl ?_
                refine XS.icmpYes X301.here hx rfl (pc0 := 211) (pc' := 216) rfl (hb hby at_211) rfl (own_flt (a := (3 : Int32)) (b := (1 : Int32)) (by decide) (by decide) hc211_305).2.2.2 (by decide) (by decide) ?_
                refine XS.iload X301.here hx rfl (hb hby at_216) rfl ?_
                refine XS.iload X301.here hx rfl (hb hby at_218) rfl ?_
                refine XS.icmpNo X301.here hx rfl (hb hby at_220) rfl (own_tlt (a := (1 : Int32)) (b := (3 : Int32)) (by decide) (by decide) hc220_306).2.1 ?_
                show Steps p.tables e below (T301.setTop (mkF m 223 #[.val (.long qa), .second, .val (.long qb), .second, .val (.long qd), .second, .val (.int vc), .val (.int vk), .val (.long qq), .second, .val (.int nk), .val (.long q1), .second, .val (.long q2), .second, .val (.long q3), .second, .val (.long qe1), .second, .val (.long qe2), .second, .val (.long qr), .second, .val (.ref b30), .val (.long tt3), .second, .val (.int (1 : Int32)), .val (.int (3 : Int32))] [])) _
                refine XS.aload X301.here hx rfl (hb hby at_223) rfl rfl ?_
                refine XS.aload X301.here hx rfl (hb hby at_225) rfl rfl ?_
                refine XS.iload X301.here hx rfl (hb hby at_227) rfl ?_
                refine st307.trans ?_
                refine st308.trans ?_
                show Steps p.tables e below (T308.setTop (mkF m 235 #[.val (.long qa), .second, .val (.long qb), .second, .val (.long qd), .second, .val (.int vc), .val (.int vk), .val (.long qq), .second, .val (.int nk), .val (.long q1), .second, .val (.long q2), .second, .val (.long q3), .second, .val (.long qe1), .second, .val (.long qe2), .second, .val (.long qr), .second, .val (.ref b30), .val (.long tt3), .second, .val (.int (1 : Int32)), .val (.int (3 : Int32))] [(.long hd)])) _
                refine XS.lload X308.here hx rfl (hb hby at_235) rfl ?_
                refine XS.lcmp X308.here hx rfl (hb hby at_237) rfl ?_
                refine XS.ifYes X308.here hx rfl (pc0 := 238) (pc' := 258) rfl (hb hby at_238) rfl (own_if (own_fltL (x := hd) (y := qr) rfl rfl hc238_309).2) (by decide) (by decide) ?_
                refine XS.iload X308.here hx rfl (hb hby at_258) rfl ?_
                refine XS.ifNo X308.here hx rfl (hb hby at_260) rfl (own_if (own_tlt (a := (0 : Int32)) (b := (1 : Int32)) (by decide) (by decide) hc260_310).2.2.2) ?_
                show Steps p.tables e below (T308.setTop (mkF m 263 #[.val (.long qa), .second, .val (.long qb), .second, .val (.long qd), .second, .val (.int vc), .val (.int vk), .val (.long qq), .second, .val (.int nk), .val (.long q1), .second, .val (.long q2), .second, .val (.long q3), .second, .val (.long qe1), .second, .val (.long qe2), .second, .val (.long qr), .second, .val (.ref b30), .val (.long tt3), .second, .val (.int (1 : Int32)), .val (.int (3 : Int32))] [])) _
                refine XS.aload X308.here hx rfl (hb hby at_263) rfl rfl ?_
                refine XS.aload X308.here hx rfl (hb hby at_265) rfl rfl ?_
                refine XS.iload X308.here hx rfl (hb hby at_267) rfl ?_
                refine XS.iconst X308.here hx rfl (hb hby at_269) ?_
                refine XS.isub X308.here hx rfl (hb hby at_270) rfl ?_
                show Steps p.tables e below (T308.setTop (mkF m 271 #[.val (.long qa), .second, .val (.long qb), .second, .val (.long qd), .second, .val (.int vc), .val (.int vk), .val (.long qq), .second, .val (.int nk), .val (.long q1), .second, .val (.long q2), .second, .val (.long q3), .second, .val (.long qe1), .second, .val (.long qe2), .second, .val (.long qr), .second, .val (.ref b30), .val (.long tt3), .second, .val (.int (1 : Int32)), .val (.int (3 : Int32))] [(.int (0 : Int32)), (.ref b30), (.ref b30)])) _
                refine st311.trans ?_
                refine st312.trans ?_
                refine XS.lload X312.here hx rfl (hb hby at_277) rfl ?_
                refine XS.lcmp X312.here hx rfl (hb hby at_279) rfl ?_
                refine XS.ifYes X312.here hx rfl (pc0 := 280) (pc' := 285) rfl (hb hby at_280) rfl (own_if (own_tltL (x := hf) (y := qr) rfl rfl hc280_313).1) (by decide) (by decide) ?_
                show Steps p.tables e below (T312.setTop (mkF m 285 #[.val (.long qa), .second, .val (.long qb), .second, .val (.long qd), .second, .val (.int vc), .val (.int vk), .val (.long qq), .second, .val (.int nk), .val (.long q1), .second, .val (.long q2), .second, .val (.long q3), .second, .val (.long qe1), .second, .val (.long qe2), .second, .val (.long qr), .second, .val (.ref b30), .val (.long tt3), .second, .val (.int (1 : Int32)), .val (.int (3 : Int32))] [])) _
                refine XS.iconst X312.here hx rfl (hb hby at_285) ?_
                exact retN X312 hx (t := .boolean) Bd.returns (by simp) (hb hby at_286) hr
              · show Q0 Z qa qb qd vc vk qq h0 n0 _ T312.heap _
                rw [e312]
                exact ⟨rfl, N312⟩
            · have pre314 : ∀ t, Steps p.tables e below (T287.setTop (mkF m 193 #[.val (.long qa), .second, .val (.long qb), .second, .val (.long qd), .second, .val (.int vc), .val (.int vk), .val (.long qq), .second, .val (.int nk), .val (.long q1), .second, .val (.long q2), .second, .val (.long q3), .second, .val (.long qe1), .second, .val (.long qe2), .second, .val (.long qr), .second, .val (.ref b30), .val (.long tt3), .second, .unset, .unset] [(.int (2 : Int32))])) t → Steps p.tables e below (s₁.setTop (entryFrame m #[(.long qa), (.long qb), (.long qd), (.int vc), (.int vk), (.long qq)] maxLocals)) t := pre288
              obtain ⟨cq315, kq315, q315a, q315b, q315c⟩ := isOf hZ e287 A238
              obtain ⟨_, _, ⟨T315, L315, k315, n315⟩, -, X315, ⟨Lc315, hQ315, l315, y315, z315⟩, st315⟩ := X287.virtualBack hx (y := (⟨"com/example/foreslot/foreslot/CountsByEnd", "size", "()I"⟩ : MethodName)) (z := (⟨"com/example/foreslot/foreslot/CountsByEnd", "size", "()I"⟩ : MethodName)) hown (mvT hZ (hw _ (List.mem_of_getElem? (i := 40) rfl))) (mvT hZ (hw _ (List.mem_of_getElem? (i := 41) rfl))) (notFace_of_selects (args := #[]) (mvT hZ (hw _ (List.mem_of_getElem? (i := 43) rfl)))) (mvT hZ (hw _ (List.mem_of_getElem? (i := 43) rfl))) (mvT hZ (hw _ (List.mem_of_getElem? (i := 42) rfl))) (by decide) (backOf (W := 0) (rm_sz3 l Z a0 hw [] b30 ea ca kE kC y241_0 y241_1 y241_2 d241_0 d241_1 d241_2 T238.heap n0 Zs239 A238 Fe238 Fc238 F2_241 V0_241 V1_241) hZ (hw _ (List.mem_of_getElem? (i := 44) rfl)) (hw _ (List.mem_of_getElem? (i := 2) rfl)) (by decide) (by decide)) q315a q315c (g := (mkF m 197 #[.val (.long qa), .second, .val (.long qb), .second, .val (.long qd), .second, .val (.int vc), .val (.int vk), .val (.long qq), .second, .val (.int nk), .val (.long q1), .second, .val (.long q2), .second, .val (.long q3), .second, .val (.long qe1), .second, .val (.long qe2), .second, .val (.long qr), .second, .val (.ref b30), .val (.long tt3), .second, .val (.int (2 : Int32)), .unset] [(.ref b30)])) rfl (by rw [hml]; rfl) (Steps.refl _) (argsL := []) (rest := []) (lenOf pd_4 rfl) rfl (by show 2 * 0 + _ ≤ _; exact Nat.le_of_eq rfl) (hb hby at_197) (fun _ _ => ⟨rfl, e287, (by decide : 3 + 0 ≤ _), (by decide : 35 + 0 ≤ _)⟩)
              dsimp only [Pt.U, Pt.locs, Pt.cells, Pt.slots] at X315 l315 y315 z315 st315 hQ315
              subst l315 y315 z315
              obtain ⟨zs, rfl, hzs, N315q, e315⟩ := hQ315
              have N315 := Fr.app N287 N315q
              have pre316 : ∀ t, Steps p.tables e below (T315.setTop (mkF m 200 #[.val (.long qa), .second, .val (.long qb), .second, .val (.long qd), .second, .val (.int vc), .val (.int vk), .val (.long qq), .second, .val (.int nk), .val (.long q1), .second, .val (.long q2), .second, .val (.long q3), .second, .val (.long qe1), .second, .val (.long qe2), .second, .val (.long qr), .second, .val (.ref b30), .val (.long tt3), .second, .val (.int (2 : Int32)), .unset] [(.int zs)])) t → Steps p.tables e below (s₁.setTop (entryFrame m #[(.long qa), (.long qb), (.long qd), (.int vc), (.int vk), (.long qq)] maxLocals)) t := fun t kt => by
                refine pre314 _ ?_
                refine XS.istore X287.here hx rfl (hb hby at_193) rfl (l' := #[.val (.long qa), .second, .val (.long qb), .second, .val (.long qd), .second, .val (.int vc), .val (.int vk), .val (.long qq), .second, .val (.int nk), .val (.long q1), .second, .val (.long q2), .second, .val (.long q3), .second, .val (.long qe1), .second, .val (.long qe2), .second, .val (.long qr), .second, .val (.ref b30), .val (.long tt3), .second, .val (.int (2 : Int32)), .unset]) rfl ?_
                refine XS.aload X287.here hx rfl (hb hby at_195) rfl rfl ?_
                show Steps p.tables e below (T287.setTop (mkF m 197 #[.val (.long qa), .second, .val (.long qb), .second, .val (.long qd), .second, .val (.int vc), .val (.int vk), .val (.long qq), .second, .val (.int nk), .val (.long q1), .second, .val (.long q2), .second, .val (.long q3), .second, .val (.long qe1), .second, .val (.long qe2), .second, .val (.long qr), .second, .val (.ref b30), .val (.long tt3), .second, .val (.int (2 : Int32)), .unset] [(.ref b30)])) _
                refine st315.trans ?_
                exact kt
              subst hzs
              have pre317 : ∀ t, Steps p.tables e below (T315.setTop (mkF m 200 #[.val (.long qa), .second, .val (.long qb), .second, .val (.long qd), .second, .val (.int vc), .val (.int vk), .val (.long qq), .second, .val (.int nk), .val (.long q1), .second, .val (.long q2), .second, .val (.long q3), .second, .val (.long qe1), .second, .val (.long qe2), .second, .val (.long qr), .second, .val (.ref b30), .val (.long tt3), .second, .val (.int (2 : Int32)), .unset] [(.int (3 : Int32))])) t → Steps p.tables e below (s₁.setTop (entryFrame m #[(.long qa), (.long qb), (.long qd), (.int vc), (.int vk), (.long qq)] maxLocals)) t := pre316
              have hc204_318 : ¬ ((2 : Int) < (0 : Int)) := by decide
              have hc211_319 : ¬ ((3 : Int) < (2 : Int)) := by decide
              have hc220_320 : (2 : Int) < (3 : Int) := by decide
              obtain ⟨cq321, kq321, q321a, q321b, q321c⟩ := isOf hZ e315 A238
              obtain ⟨_, _, ⟨T321, L321, k321, n321⟩, -, X321, ⟨Lc321, hQ321, l321, y321, z321⟩, st321⟩ := X315.virtualBack hx (y := (⟨"com/example/foreslot/foreslot/CountsByEnd", "end", "(I)J"⟩ : MethodName)) (z := (⟨"com/example/foreslot/foreslot/CountsByEnd", "end", "(I)J"⟩ : MethodName)) hown (mvT hZ (hw _ (List.mem_of_getElem? (i := 45) rfl))) (mvT hZ (hw _ (List.mem_of_getElem? (i := 46) rfl))) (notFace_of_selects (args := #[]) (mvT hZ (hw _ (List.mem_of_getElem? (i := 48) rfl)))) (mvT hZ (hw _ (List.mem_of_getElem? (i := 48) rfl))) (mvT hZ (hw _ (List.mem_of_getElem? (i := 47) rfl))) (by decide) (backOf (W := 1) (rm_e3_2 l Z a0 hw [] b30 ea ca kE kC y241_0 y241_1 y241_2 d241_0 d241_1 d241_2 T238.heap n0 Zs239 A238 Fe238 Fc238 F2_241 V0_241 V1_241) hZ (hw _ (List.mem_of_getElem? (i := 49) rfl)) (hw _ (List.mem_of_getElem? (i := 2) rfl)) (by decide) (by decide)) q321a q321c (g := (mkF m 229 #[.val (.long qa), .second, .val (.long qb), .second, .val (.long qd), .second, .val (.int vc), .val (.int vk), .val (.long qq), .second, .val (.int nk), .val (.long q1), .second, .val (.long q2), .second, .val (.long q3), .second, .val (.long qe1), .second, .val (.long qe2), .second, .val (.long qr), .second, .val (.ref b30), .val (.long tt3), .second, .val (.int (2 : Int32)), .val (.int (3 : Int32))] [(.int (2 : Int32)), (.ref b30), (.ref b30)])) rfl (by rw [hml]; rfl) (Steps.refl _) (argsL := [(.int (2 : Int32))]) (rest := [(.ref b30)]) (lenOf pd_6 rfl) rfl (by show 2 * 0 + _ ≤ _; exact Nat.le_of_eq rfl) (hb hby at_229) (fun _ _ => ⟨rfl, e315, (by decide : 3 + 0 ≤ _), (by decide : 35 + 0 ≤ _)⟩)
              dsimp only [Pt.U, Pt.locs, Pt.cells, Pt.slots] at X321 l321 y321 z321 st321 hQ321
              subst l321 y321 z321
              obtain ⟨ze, rfl, hze, N321q, e321⟩ := hQ321
              have N321 := Fr.app N315 N321q
              obtain ⟨cq322, kq322, q322a, q322b, q322c⟩ := isOf hZ e321 A238
              obtain ⟨_, _, ⟨T322, L322, k322, n322⟩, -, X322, ⟨Lc322, hQ322, l322, y322, z322⟩, st322⟩ := X321.virtualBack hx (y := (⟨"com/example/foreslot/foreslot/CountsByEnd", "heldUntilAtLatest", "(J)J"⟩ : MethodName)) (z := (⟨"com/example/foreslot/foreslot/CountsByEnd", "heldUntilAtLatest", "(J)J"⟩ : MethodName)) hown (mvT hZ (hw _ (List.mem_of_getElem? (i := 50) rfl))) (mvT hZ (hw _ (List.mem_of_getElem? (i := 51) rfl))) (notFace_of_selects (args := #[]) (mvT hZ (hw _ (List.mem_of_getElem? (i := 53) rfl)))) (mvT hZ (hw _ (List.mem_of_getElem? (i := 53) rfl))) (mvT hZ (hw _ (List.mem_of_getElem? (i := 52) rfl))) (by decide) (backOf (W := 0) (rm_h3 l Z a0 hw [] b30 ze ea ca kE kC y241_0 y241_1 y241_2 d241_0 d241_1 d241_2 T238.heap n0 Zs239 A238 Fe238 Fc238 F2_241 V0_241 V1_241 (by omega) (by omega) (by omega) (by omega) (by omega) (by omega)) hZ (hw _ (List.mem_of_getElem? (i := 54) rfl)) (hw _ (List.mem_of_getElem? (i := 2) rfl)) (by decide) (by decide)) q322a q322c (g := (mkF m 232 #[.val (.long qa), .second, .val (.long qb), .second, .val (.long qd), .second, .val (.int vc), .val (.int vk), .val (.long qq), .second, .val (.int nk), .val (.long q1), .second, .val (.long q2), .second, .val (.long q3), .second, .val (.long qe1), .second, .val (.long qe2), .second, .val (.long qr), .second, .val (.ref b30), .val (.long tt3), .second, .val (.int (2 : Int32)), .val (.int (3 : Int32))] [(.long ze), (.ref b30)])) rfl (by rw [hml]; rfl) (Steps.refl _) (argsL := [(.long ze)]) (rest := []) (lenOf pd_7 rfl) rfl (by show 2 * 0 + _ ≤ _; exact Nat.le_of_eq rfl) (hb hby at_232) (fun _ _ => ⟨rfl, e321, (by decide : 3 + 0 ≤ _), (by decide : 35 + 0 ≤ _)⟩)
              dsimp only [Pt.U, Pt.locs, Pt.cells, Pt.slots] at X322 l322 y322 z322 st322 hQ322
              subst l322 y322 z322
              obtain ⟨hd, rfl, hhd, N322q, e322⟩ := hQ322
              have N322 := Fr.app N321 N322q
              have hc238_323 : ¬ (hd.toInt < qr.toInt) := by rw [own_fp (x := y241_0.toInt) (by omega), own_fp (x := y241_1.toInt) (by omega), own_fp (x := y241_2.toInt) (by omega)] at hhd; omega
              have hc260_324 : (0 : Int) < (2 : Int) := by decide
              obtain ⟨cq325, kq325, q325a, q325b, q325c⟩ := isOf hZ e322 A238
              obtain ⟨_, _, ⟨T325, L325, k325, n325⟩, -, X325, ⟨Lc325, hQ325, l325, y325, z325⟩, st325⟩ := X322.virtualBack hx (y := (⟨"com/example/foreslot/foreslot/CountsByEnd", "end", "(I)J"⟩ : MethodName)) (z := (⟨"com/example/foreslot/foreslot/CountsByEnd", "end", "(I)J"⟩ : MethodName)) hown (mvT hZ (hw _ (List.mem_of_getElem? (i := 45) rfl))) (mvT hZ (hw _ (List.mem_of_getElem? (i := 46) rfl))) (notFace_of_selects (args := #[]) (mvT hZ (hw _ (List.mem_of_getElem? (i := 48) rfl)))) (mvT hZ (hw _ (List.mem_of_getElem? (i := 48) rfl))) (mvT hZ (hw _ (List.mem_of_getElem? (i := 47) rfl))) (by decide) (backOf (W := 1) (rm_e3_1 l Z a0 hw [] b30 ea ca kE kC y241_0 y241_1 y241_2 d241_0 d241_1 d241_2 T238.heap n0 Zs239 A238 Fe238 Fc238 F2_241 V0_241 V1_241) hZ (hw _ (List.mem_of_getElem? (i := 49) rfl)) (hw _ (List.mem_of_getElem? (i := 2) rfl)) (by decide) (by decide)) q325a q325c (g := (mkF m 271 #[.val (.long qa), .second, .val (.long qb), .second, .val (.long qd), .second, .val (.int vc), .val (.int vk), .val (.long qq), .second, .val (.int nk), .val (.long q1), .second, .val (.long q2), .second, .val (.long q3), .second, .val (.long qe1), .second, .val (.long qe2), .second, .val (.long qr), .second, .val (.ref b30), .val (.long tt3), .second, .val (.int (2 : Int32)), .val (.int (3 : Int32))] [(.int (1 : Int32)), (.ref b30), (.ref b30)])) rfl (by rw [hml]; rfl) (Steps.refl _) (argsL := [(.int (1 : Int32))]) (rest := [(.ref b30)]) (lenOf pd_6 rfl) rfl (by show 2 * 0 + _ ≤ _; exact Nat.le_of_eq rfl) (hb hby at_271) (fun _ _ => ⟨rfl, e322, (by decide : 3 + 0 ≤ _), (by decide : 35 + 0 ≤ _)⟩)
              dsimp only [Pt.U, Pt.locs, Pt.cells, Pt.slots] at X325 l325 y325 z325 st325 hQ325
              subst l325 y325 z325
              obtain ⟨zf, rfl, hzf, N325q, e325⟩ := hQ325
              have N325 := Fr.app N322 N325q
              obtain ⟨cq326, kq326, q326a, q326b, q326c⟩ := isOf hZ e325 A238
              obtain ⟨_, _, ⟨T326, L326, k326, n326⟩, -, X326, ⟨Lc326, hQ326, l326, y326, z326⟩, st326⟩ := X325.virtualBack hx (y := (⟨"com/example/foreslot/foreslot/CountsByEnd", "heldUntilAtLatest", "(J)J"⟩ : MethodName)) (z := (⟨"com/example/foreslot/foreslot/CountsByEnd", "heldUntilAtLatest", "(J)J"⟩ : MethodName)) hown (mvT hZ (hw _ (List.mem_of_getElem? (i := 50) rfl))) (mvT hZ (hw _ (List.mem_of_getElem? (i := 51) rfl))) (notFace_of_selects (args := #[]) (mvT hZ (hw _ (List.mem_of_getElem? (i := 53) rfl)))) (mvT hZ (hw _ (List.mem_of_getElem? (i := 53) rfl))) (mvT hZ (hw _ (List.mem_of_getElem? (i := 52) rfl))) (by decide) (backOf (W := 0) (rm_h3 l Z a0 hw [] b30 zf ea ca kE kC y241_0 y241_1 y241_2 d241_0 d241_1 d241_2 T238.heap n0 Zs239 A238 Fe238 Fc238 F2_241 V0_241 V1_241 (by omega) (by omega) (by omega) (by omega) (by omega) (by omega)) hZ (hw _ (List.mem_of_getElem? (i := 54) rfl)) (hw _ (List.mem_of_getElem? (i := 2) rfl)) (by decide) (by decide)) q326a q326c (g := (mkF m 274 #[.val (.long qa), .second, .val (.long qb), .second, .val (.long qd), .second, .val (.int vc), .val (.int vk), .val (.long qq), .second, .val (.int nk), .val (.long q1), .second, .val (.long q2), .second, .val (.long q3), .second, .val (.long qe1), .second, .val (.long qe2), .second, .val (.long qr), .second, .val (.ref b30), .val (.long tt3), .second, .val (.int (2 : Int32)), .val (.int (3 : Int32))] [(.long zf), (.ref b30)])) rfl (by rw [hml]; rfl) (Steps.refl _) (argsL := [(.long zf)]) (rest := []) (lenOf pd_7 rfl) rfl (by show 2 * 0 + _ ≤ _; exact Nat.le_of_eq rfl) (hb hby at_274) (fun _ _ => ⟨rfl, e325, (by decide : 3 + 0 ≤ _), (by decide : 35 + 0 ≤ _)⟩)
              dsimp only [Pt.U, Pt.locs, Pt.cells, Pt.slots] at X326 l326 y326 z326 st326 hQ326
              subst l326 y326 z326
              obtain ⟨hf, rfl, hhf, N326q, e326⟩ := hQ326
              have N326 := Fr.app N325 N326q
              have hc280_327 : hf.toInt < qr.toInt := by rw [own_fp (x := y241_0.toInt) (by omega), own_fp (x := y241_1.toInt) (by omega), own_fn (x := y241_2.toInt) (by omega)] at hhf; omega
              obtain ⟨fs, hr, hrun, hended, hW, hsame⟩ := X326.leave (v := some (.int (1 : Int32))) (fun h => by rw [Bd.returns] at h; cases h)
              refine ⟨_, _, pre317 _ ?_, hrun, hended, _, _, rfl, ?_, ⟨_, rfl⟩, hW, hsame.mono (by decide) (by decide)⟩
              · refine XS.istore X315.here hx rfl (hb hby at_200) rfl (l' := #[.val (.long qa), .second, .val (.long qb), .second, .val (.long qd), .second, .val (.int vc), .val (.int vk), .val (.long qq), .second, .val (.int nk), .val (.long q1), .second, .val (.long q2), .second, .val (.long q3), .second, .val (.long qe1), .second, .val (.long qe2), .second, .val (.long qr), .second, .val (.ref b30), .val (.long tt3), .second, .val (.int (2 : Int32)), .val (.int (3 : Int32))]) rfl ?_
                refine XS.iload X315.here hx rfl (hb hby at_202) rfl ?_
                refine XS.ifNo X315.here hx rfl (hb hby at_204) rfl (own_if (own_flt (a := (2 : Int32)) (b := (0 : Int32)) (by decide) (by decide) hc204_318).1) ?_
                refine XS.iload X315.here hx rfl (hb hby at_207) rfl ?_
                show Steps p.tables e below (T315.setTop (mkF m 209 #[.val (.long qa), .second, .val (.long qb), .second, .val (.long qd), .second, .val (.int vc), .val (.int vk), .val (.long qq), .second, .val (.int nk), .val (.long q1), .second, .val (.long q2), .second, .val (.long q3), .second, .val (.long qe1), .second, .val (.long qe2), .second, .val (.long qr), .second, .val (.ref b30), .val (.long tt3), .second, .val (.int (2 : Int32)), .val (.int (3 : Int32))] [(.int (2 : Int32))])) _
                refine XS.iload X315.here hx rfl (hb hby at_209) rfl ?_
                refine XS.icmpYes X315.here hx rfl (pc0 := 211) (pc' := 216) rfl (hb hby at_211) rfl (own_flt (a := (3 : Int32)) (b := (2 : Int32)) (by decide) (by decide) hc211_319).2.2.2 (by decide) (by decide) ?_
                refine XS.iload X315.here hx rfl (hb hby at_216) rfl ?_
                refine XS.iload X315.here hx rfl (hb hby at_218) rfl ?_
                refine XS.icmpNo X315.here hx rfl (hb hby at_220) rfl (own_tlt (a := (2 : Int32)) (b := (3 : Int32)) (by decide) (by decide) hc220_320).2.1 ?_
                show Steps p.tables e below (T315.setTop (mkF m 223 #[.val (.long qa), .second, .val (.long qb), .second, .val (.long qd), .second, .val (.int vc), .val (.int vk), .val (.long qq), .second, .val (.int nk), .val (.long q1), .second, .val (.long q2), .second, .val (.long q3), .second, .val (.long qe1), .second, .val (.long qe2), .second, .val (.long qr), .second, .val (.ref b30), .val (.long tt3), .second, .val (.int (2 : Int32)), .val (.int (3 : Int32))] [])) _
                refine XS.aload X315.here hx rfl (hb hby at_223) rfl rfl ?_
                refine XS.aload X315.here hx rfl (hb hby at_225) rfl rfl ?_
                refine XS.iload X315.here hx rfl (hb hby at_227) rfl ?_
                refine st321.trans ?_
                refine st322.trans ?_
                show Steps p.tables e below (T322.setTop (mkF m 235 #[.val (.long qa), .second, .val (.long qb), .second, .val (.long qd), .second, .val (.int vc), .val (.int vk), .val (.long qq), .second, .val (.int nk), .val (.long q1), .second, .val (.long q2), .second, .val (.long q3), .second, .val (.long qe1), .second, .val (.long qe2), .second, .val (.long qr), .second, .val (.ref b30), .val (.long tt3), .second, .val (.int (2 : Int32)), .val (.int (3 : Int32))] [(.long hd)])) _
                refine XS.lload X322.here hx rfl (hb hby at_235) rfl ?_
                refine XS.lcmp X322.here hx rfl (hb hby at_237) rfl ?_
                refine XS.ifYes X322.here hx rfl (pc0 := 238) (pc' := 258) rfl (hb hby at_238) rfl (own_if (own_fltL (x := hd) (y := qr) rfl rfl hc238_323).2) (by decide) (by decide) ?_
                refine XS.iload X322.here hx rfl (hb hby at_258) rfl ?_
                refine XS.ifNo X322.here hx rfl (hb hby at_260) rfl (own_if (own_tlt (a := (0 : Int32)) (b := (2 : Int32)) (by decide) (by decide) hc260_324).2.2.2) ?_
                show Steps p.tables e below (T322.setTop (mkF m 263 #[.val (.long qa), .second, .val (.long qb), .second, .val (.long qd), .second, .val (.int vc), .val (.int vk), .val (.long qq), .second, .val (.int nk), .val (.long q1), .second, .val (.long q2), .second, .val (.long q3), .second, .val (.long qe1), .second, .val (.long qe2), .second, .val (.long qr), .second, .val (.ref b30), .val (.long tt3), .second, .val (.int (2 : Int32)), .val (.int (3 : Int32))] [])) _
                refine XS.aload X322.here hx rfl (hb hby at_263) rfl rfl ?_
                refine XS.aload X322.here hx rfl (hb hby at_265) rfl rfl ?_
                refine XS.iload X322.here hx rfl (hb hby at_267) rfl ?_
                refine XS.iconst X322.here hx rfl (hb hby at_269) ?_
                refine XS.isub X322.here hx rfl (hb hby at_270) rfl ?_
                show Steps p.tables e below (T322.setTop (mkF m 271 #[.val (.long qa), .second, .val (.long qb), .second, .val (.long qd), .second, .val (.int vc), .val (.int vk), .val (.long qq), .second, .val (.int nk), .val (.long q1), .second, .val (.long q2), .second, .val (.long q3), .second, .val (.long qe1), .second, .val (.long qe2), .second, .val (.long qr), .second, .val (.ref b30), .val (.long tt3), .second, .val (.int (2 : Int32)), .val (.int (3 : Int32))] [(.int (1 : Int32)), (.ref b30), (.ref b30)])) _
                refine st325.trans ?_
                refine st326.trans ?_
                refine XS.lload X326.here hx rfl (hb hby at_277) rfl ?_
                refine XS.lcmp X326.here hx rfl (hb hby at_279) rfl ?_
                refine XS.ifYes X326.here hx rfl (pc0 := 280) (pc' := 285) rfl (hb hby at_280) rfl (own_if (own_tltL (x := hf) (y := qr) rfl rfl hc280_327).1) (by decide) (by decide) ?_
                show Steps p.tables e below (T326.setTop (mkF m 285 #[.val (.long qa), .second, .val (.long qb), .second, .val (.long qd), .second, .val (.int vc), .val (.int vk), .val (.long qq), .second, .val (.int nk), .val (.long q1), .second, .val (.long q2), .second, .val (.long q3), .second, .val (.long qe1), .second, .val (.long qe2), .second, .val (.long qr), .second, .val (.ref b30), .val (.long tt3), .second, .val (.int (2 : Int32)), .val (.int (3 : Int32))] [])) _
                refine XS.iconst X326.here hx rfl (hb hby at_285) ?_
                exact retN X326 hx (t := .boolean) Bd.returns (by simp) (hb hby at_286) hr
              · show Q0 Z qa qb qd vc vk qq h0 n0 _ T326.heap _
                rw [e326]
                exact ⟨rfl, N326⟩
            · have pre328 : ∀ t, Steps p.tables e below (T287.setTop (mkF m 193 #[.val (.long qa), .second, .val (.long qb), .second, .val (.long qd), .second, .val (.int vc), .val (.int vk), .val (.long qq), .second, .val (.int nk), .val (.long q1), .second, .val (.long q2), .second, .val (.long q3), .second, .val (.long qe1), .second, .val (.long qe2), .second, .val (.long qr), .second, .val (.ref b30), .val (.long tt3), .second, .unset, .unset] [(.int (3 : Int32))])) t → Steps p.tables e below (s₁.setTop (entryFrame m #[(.long qa), (.long qb), (.long qd), (.int vc), (.int vk), (.long qq)] maxLocals)) t := pre288
              obtain ⟨cq329, kq329, q329a, q329b, q329c⟩ := isOf hZ e287 A238
              obtain ⟨_, _, ⟨T329, L329, k329, n329⟩, -, X329, ⟨Lc329, hQ329, l329, y329, z329⟩, st329⟩ := X287.virtualBack hx (y := (⟨"com/example/foreslot/foreslot/CountsByEnd", "size", "()I"⟩ : MethodName)) (z := (⟨"com/example/foreslot/foreslot/CountsByEnd", "size", "()I"⟩ : MethodName)) hown (mvT hZ (hw _ (List.mem_of_getElem? (i := 40) rfl))) (mvT hZ (hw _ (List.mem_of_getElem? (i := 41) rfl))) (notFace_of_selects (args := #[]) (mvT hZ (hw _ (List.mem_of_getElem? (i := 43) rfl)))) (mvT hZ (hw _ (List.mem_of_getElem? (i := 43) rfl))) (mvT hZ (hw _ (List.mem_of_getElem? (i := 42) rfl))) (by decide) (backOf (W := 0) (rm_sz3 l Z a0 hw [] b30 ea ca kE kC y241_0 y241_1 y241_2 d241_0 d241_1 d241_2 T238.heap n0 Zs239 A238 Fe238 Fc238 F2_241 V0_241 V1_241) hZ (hw _ (List.mem_of_getElem? (i := 44) rfl)) (hw _ (List.mem_of_getElem? (i := 2) rfl)) (by decide) (by decide)) q329a q329c (g := (mkF m 197 #[.val (.long qa), .second, .val (.long qb), .second, .val (.long qd), .second, .val (.int vc), .val (.int vk), .val (.long qq), .second, .val (.int nk), .val (.long q1), .second, .val (.long q2), .second, .val (.long q3), .second, .val (.long qe1), .second, .val (.long qe2), .second, .val (.long qr), .second, .val (.ref b30), .val (.long tt3), .second, .val (.int (3 : Int32)), .unset] [(.ref b30)])) rfl (by rw [hml]; rfl) (Steps.refl _) (argsL := []) (rest := []) (lenOf pd_4 rfl) rfl (by show 2 * 0 + _ ≤ _; exact Nat.le_of_eq rfl) (hb hby at_197) (fun _ _ => ⟨rfl, e287, (by decide : 3 + 0 ≤ _), (by decide : 35 + 0 ≤ _)⟩)
              dsimp only [Pt.U, Pt.locs, Pt.cells, Pt.slots] at X329 l329 y329 z329 st329 hQ329
              subst l329 y329 z329
              obtain ⟨zs, rfl, hzs, N329q, e329⟩ := hQ329
              have N329 := Fr.app N287 N329q
              have pre330 : ∀ t, Steps p.tables e below (T329.setTop (mkF m 200 #[.val (.long qa), .second, .val (.long qb), .second, .val (.long qd), .second, .val (.int vc), .val (.int vk), .val (.long qq), .second, .val (.int nk), .val (.long q1), .second, .val (.long q2), .second, .val (.long q3), .second, .val (.long qe1), .second, .val (.long qe2), .second, .val (.long qr), .second, .val (.ref b30), .val (.long tt3), .second, .val (.int (3 : Int32)), .unset] [(.int zs)])) t → Steps p.tables e below (s₁.setTop (entryFrame m #[(.long qa), (.long qb), (.long qd), (.int vc), (.int vk), (.long qq)] maxLocals)) t := fun t kt => by
                refine pre328 _ ?_
                refine XS.istore X287.here hx rfl (hb hby at_193) rfl (l' := #[.val (.long qa), .second, .val (.long qb), .second, .val (.long qd), .second, .val (.int vc), .val (.int vk), .val (.long qq), .second, .val (.int nk), .val (.long q1), .second, .val (.long q2), .second, .val (.long q3), .second, .val (.long qe1), .second, .val (.long qe2), .second, .val (.long qr), .second, .val (.ref b30), .val (.long tt3), .second, .val (.int (3 : Int32)), .unset]) rfl ?_
                refine XS.aload X287.here hx rfl (hb hby at_195) rfl rfl ?_
                show Steps p.tables e below (T287.setTop (mkF m 197 #[.val (.long qa), .second, .val (.long qb), .second, .val (.long qd), .second, .val (.int vc), .val (.int vk), .val (.long qq), .second, .val (.int nk), .val (.long q1), .second, .val (.long q2), .second, .val (.long q3), .second, .val (.long qe1), .second, .val (.long qe2), .second, .val (.long qr), .second, .val (.ref b30), .val (.long tt3), .second, .val (.int (3 : Int32)), .unset] [(.ref b30)])) _
                refine st329.trans ?_
                exact kt
              subst hzs
              have pre331 : ∀ t, Steps p.tables e below (T329.setTop (mkF m 200 #[.val (.long qa), .second, .val (.long qb), .second, .val (.long qd), .second, .val (.int vc), .val (.int vk), .val (.long qq), .second, .val (.int nk), .val (.long q1), .second, .val (.long q2), .second, .val (.long q3), .second, .val (.long qe1), .second, .val (.long qe2), .second, .val (.long qr), .second, .val (.ref b30), .val (.long tt3), .second, .val (.int (3 : Int32)), .unset] [(.int (3 : Int32))])) t → Steps p.tables e below (s₁.setTop (entryFrame m #[(.long qa), (.long qb), (.long qd), (.int vc), (.int vk), (.long qq)] maxLocals)) t := pre330
              have hc204_332 : ¬ ((3 : Int) < (0 : Int)) := by decide
              have hc211_333 : ¬ ((3 : Int) < (3 : Int)) := by decide
              have hc220_334 : ¬ ((3 : Int) < (3 : Int)) := by decide
              have hc245_335 : (0 : Int) < (3 : Int) := by decide
              have hc253_336 : tt3.toInt < qr.toInt := by omega
              have hc260_337 : (0 : Int) < (3 : Int) := by decide
              obtain ⟨cq338, kq338, q338a, q338b, q338c⟩ := isOf hZ e329 A238
              obtain ⟨_, _, ⟨T338, L338, k338, n338⟩, -, X338, ⟨Lc338, hQ338, l338, y338, z338⟩, st338⟩ := X329.virtualBack hx (y := (⟨"com/example/foreslot/foreslot/CountsByEnd", "end", "(I)J"⟩ : MethodName)) (z := (⟨"com/example/foreslot/foreslot/CountsByEnd", "end", "(I)J"⟩ : MethodName)) hown (mvT hZ (hw _ (List.mem_of_getElem? (i := 45) rfl))) (mvT hZ (hw _ (List.mem_of_getElem? (i := 46) rfl))) (notFace_of_selects (args := #[]) (mvT hZ (hw _ (List.mem_of_getElem? (i := 48) rfl)))) (mvT hZ (hw _ (List.mem_of_getElem? (i := 48) rfl))) (mvT hZ (hw _ (List.mem_of_getElem? (i := 47) rfl))) (by decide) (backOf (W := 1) (rm_e3_2 l Z a0 hw [] b30 ea ca kE kC y241_0 y241_1 y241_2 d241_0 d241_1 d241_2 T238.heap n0 Zs239 A238 Fe238 Fc238 F2_241 V0_241 V1_241) hZ (hw _ (List.mem_of_getElem? (i := 49) rfl)) (hw _ (List.mem_of_getElem? (i := 2) rfl)) (by decide) (by decide)) q338a q338c (g := (mkF m 271 #[.val (.long qa), .second, .val (.long qb), .second, .val (.long qd), .second, .val (.int vc), .val (.int vk), .val (.long qq), .second, .val (.int nk), .val (.long q1), .second, .val (.long q2), .second, .val (.long q3), .second, .val (.long qe1), .second, .val (.long qe2), .second, .val (.long qr), .second, .val (.ref b30), .val (.long tt3), .second, .val (.int (3 : Int32)), .val (.int (3 : Int32))] [(.int (2 : Int32)), (.ref b30), (.ref b30)])) rfl (by rw [hml]; rfl) (Steps.refl _) (argsL := [(.int (2 : Int32))]) (rest := [(.ref b30)]) (lenOf pd_6 rfl) rfl (by show 2 * 0 + _ ≤ _; exact Nat.le_of_eq rfl) (hb hby at_271) (fun _ _ => ⟨rfl, e329, (by decide : 3 + 0 ≤ _), (by decide : 35 + 0 ≤ _)⟩)
              dsimp only [Pt.U, Pt.locs, Pt.cells, Pt.slots] at X338 l338 y338 z338 st338 hQ338
              subst l338 y338 z338
              obtain ⟨zf, rfl, hzf, N338q, e338⟩ := hQ338
              have N338 := Fr.app N329 N338q
              obtain ⟨cq339, kq339, q339a, q339b, q339c⟩ := isOf hZ e338 A238
              obtain ⟨_, _, ⟨T339, L339, k339, n339⟩, -, X339, ⟨Lc339, hQ339, l339, y339, z339⟩, st339⟩ := X338.virtualBack hx (y := (⟨"com/example/foreslot/foreslot/CountsByEnd", "heldUntilAtLatest", "(J)J"⟩ : MethodName)) (z := (⟨"com/example/foreslot/foreslot/CountsByEnd", "heldUntilAtLatest", "(J)J"⟩ : MethodName)) hown (mvT hZ (hw _ (List.mem_of_getElem? (i := 50) rfl))) (mvT hZ (hw _ (List.mem_of_getElem? (i := 51) rfl))) (notFace_of_selects (args := #[]) (mvT hZ (hw _ (List.mem_of_getElem? (i := 53) rfl)))) (mvT hZ (hw _ (List.mem_of_getElem? (i := 53) rfl))) (mvT hZ (hw _ (List.mem_of_getElem? (i := 52) rfl))) (by decide) (backOf (W := 0) (rm_h3 l Z a0 hw [] b30 zf ea ca kE kC y241_0 y241_1 y241_2 d241_0 d241_1 d241_2 T238.heap n0 Zs239 A238 Fe238 Fc238 F2_241 V0_241 V1_241 (by omega) (by omega) (by omega) (by omega) (by omega) (by omega)) hZ (hw _ (List.mem_of_getElem? (i := 54) rfl)) (hw _ (List.mem_of_getElem? (i := 2) rfl)) (by decide) (by decide)) q339a q339c (g := (mkF m 274 #[.val (.long qa), .second, .val (.long qb), .second, .val (.long qd), .second, .val (.int vc), .val (.int vk), .val (.long qq), .second, .val (.int nk), .val (.long q1), .second, .val (.long q2), .second, .val (.long q3), .second, .val (.long qe1), .second, .val (.long qe2), .second, .val (.long qr), .second, .val (.ref b30), .val (.long tt3), .second, .val (.int (3 : Int32)), .val (.int (3 : Int32))] [(.long zf), (.ref b30)])) rfl (by rw [hml]; rfl) (Steps.refl _) (argsL := [(.long zf)]) (rest := []) (lenOf pd_7 rfl) rfl (by show 2 * 0 + _ ≤ _; exact Nat.le_of_eq rfl) (hb hby at_274) (fun _ _ => ⟨rfl, e338, (by decide : 3 + 0 ≤ _), (by decide : 35 + 0 ≤ _)⟩)
              dsimp only [Pt.U, Pt.locs, Pt.cells, Pt.slots] at X339 l339 y339 z339 st339 hQ339
              subst l339 y339 z339
              obtain ⟨hf, rfl, hhf, N339q, e339⟩ := hQ339
              have N339 := Fr.app N338 N339q
              have hc280_340 : hf.toInt < qr.toInt := by rw [own_fp (x := y241_0.toInt) (by omega), own_fp (x := y241_1.toInt) (by omega), own_fp (x := y241_2.toInt) (by omega)] at hhf; omega
              obtain ⟨fs, hr, hrun, hended, hW, hsame⟩ := X339.leave (v := some (.int (1 : Int32))) (fun h => by rw [Bd.returns] at h; cases h)
              refine ⟨_, _, pre331 _ ?_, hrun, hended, _, _, rfl, ?_, ⟨_, rfl⟩, hW, hsame.mono (by decide) (by decide)⟩
              · refine XS.istore X329.here hx rfl (hb hby at_200) rfl (l' := #[.val (.long qa), .second, .val (.long qb), .second, .val (.long qd), .second, .val (.int vc), .val (.int vk), .val (.long qq), .second, .val (.int nk), .val (.long q1), .second, .val (.long q2), .second, .val (.long q3), .second, .val (.long qe1), .second, .val (.long qe2), .second, .val (.long qr), .second, .val (.ref b30), .val (.long tt3), .second, .val (.int (3 : Int32)), .val (.int (3 : Int32))]) rfl ?_
                refine XS.iload X329.here hx rfl (hb hby at_202) rfl ?_
                refine XS.ifNo X329.here hx rfl (hb hby at_204) rfl (own_if (own_flt (a := (3 : Int32)) (b := (0 : Int32)) (by decide) (by decide) hc204_332).1) ?_
                refine XS.iload X329.here hx rfl (hb hby at_207) rfl ?_
                show Steps p.tables e below (T329.setTop (mkF m 209 #[.val (.long qa), .second, .val (.long qb), .second, .val (.long qd), .second, .val (.int vc), .val (.int vk), .val (.long qq), .second, .val (.int nk), .val (.long q1), .second, .val (.long q2), .second, .val (.long q3), .second, .val (.long qe1), .second, .val (.long qe2), .second, .val (.long qr), .second, .val (.ref b30), .val (.long tt3), .second, .val (.int (3 : Int32)), .val (.int (3 : Int32))] [(.int (3 : Int32))])) _
                refine XS.iload X329.here hx rfl (hb hby at_209) rfl ?_
                refine XS.icmpYes X329.here hx rfl (pc0 := 211) (pc' := 216) rfl (hb hby at_211) rfl (own_flt (a := (3 : Int32)) (b := (3 : Int32)) (by decide) (by decide) hc211_333).2.2.2 (by decide) (by decide) ?_
                refine XS.iload X329.here hx rfl (hb hby at_216) rfl ?_
                refine XS.iload X329.here hx rfl (hb hby at_218) rfl ?_
                refine XS.icmpYes X329.here hx rfl (pc0 := 220) (pc' := 243) rfl (hb hby at_220) rfl (own_flt (a := (3 : Int32)) (b := (3 : Int32)) (by decide) (by decide) hc220_334).2.1 (by decide) (by decide) ?_
                show Steps p.tables e below (T329.setTop (mkF m 243 #[.val (.long qa), .second, .val (.long qb), .second, .val (.long qd), .second, .val (.int vc), .val (.int vk), .val (.long qq), .second, .val (.int nk), .val (.long q1), .second, .val (.long q2), .second, .val (.long q3), .second, .val (.long qe1), .second, .val (.long qe2), .second, .val (.long qr), .second, .val (.ref b30), .val (.long tt3), .second, .val (.int (3 : Int32)), .val (.int (3 : Int32))] [])) _
                refine XS.iload X329.here hx rfl (hb hby at_243) rfl ?_
                refine XS.ifNo X329.here hx rfl (hb hby at_245) rfl (own_if (own_tlt (a := (0 : Int32)) (b := (3 : Int32)) (by decide) (by decide) hc245_335).2.2.2) ?_
                refine XS.lload X329.here hx rfl (hb hby at_248) rfl ?_
                refine XS.lload X329.here hx rfl (hb hby at_250) rfl ?_
                refine XS.lcmp X329.here hx rfl (hb hby at_252) rfl ?_
                show Steps p.tables e below (T329.setTop (mkF m 253 #[.val (.long qa), .second, .val (.long qb), .second, .val (.long qd), .second, .val (.int vc), .val (.int vk), .val (.long qq), .second, .val (.int nk), .val (.long q1), .second, .val (.long q2), .second, .val (.long q3), .second, .val (.long qe1), .second, .val (.long qe2), .second, .val (.long qr), .second, .val (.ref b30), .val (.long tt3), .second, .val (.int (3 : Int32)), .val (.int (3 : Int32))] [(.int (lcmpW tt3 qr))])) _
                refine XS.ifYes X329.here hx rfl (pc0 := 253) (pc' := 258) rfl (hb hby at_253) rfl (own_if (own_tltL (x := tt3) (y := qr) rfl rfl hc253_336).1) (by decide) (by decide) ?_
                refine XS.iload X329.here hx rfl (hb hby at_258) rfl ?_
                refine XS.ifNo X329.here hx rfl (hb hby at_260) rfl (own_if (own_tlt (a := (0 : Int32)) (b := (3 : Int32)) (by decide) (by decide) hc260_337).2.2.2) ?_
                refine XS.aload X329.here hx rfl (hb hby at_263) rfl rfl ?_
                refine XS.aload X329.here hx rfl (hb hby at_265) rfl rfl ?_
                show Steps p.tables e below (T329.setTop (mkF m 267 #[.val (.long qa), .second, .val (.long qb), .second, .val (.long qd), .second, .val (.int vc), .val (.int vk), .val (.long qq), .second, .val (.int nk), .val (.long q1), .second, .val (.long q2), .second, .val (.long q3), .second, .val (.long qe1), .second, .val (.long qe2), .second, .val (.long qr), .second, .val (.ref b30), .val (.long tt3), .second, .val (.int (3 : Int32)), .val (.int (3 : Int32))] [(.ref b30), (.ref b30)])) _
                refine XS.iload X329.here hx rfl (hb hby at_267) rfl ?_
                refine XS.iconst X329.here hx rfl (hb hby at_269) ?_
                refine XS.isub X329.here hx rfl (hb hby at_270) rfl ?_
                refine st338.trans ?_
                refine st339.trans ?_
                show Steps p.tables e below (T339.setTop (mkF m 277 #[.val (.long qa), .second, .val (.long qb), .second, .val (.long qd), .second, .val (.int vc), .val (.int vk), .val (.long qq), .second, .val (.int nk), .val (.long q1), .second, .val (.long q2), .second, .val (.long q3), .second, .val (.long qe1), .second, .val (.long qe2), .second, .val (.long qr), .second, .val (.ref b30), .val (.long tt3), .second, .val (.int (3 : Int32)), .val (.int (3 : Int32))] [(.long hf)])) _
                refine XS.lload X339.here hx rfl (hb hby at_277) rfl ?_
                refine XS.lcmp X339.here hx rfl (hb hby at_279) rfl ?_
                refine XS.ifYes X339.here hx rfl (pc0 := 280) (pc' := 285) rfl (hb hby at_280) rfl (own_if (own_tltL (x := hf) (y := qr) rfl rfl hc280_340).1) (by decide) (by decide) ?_
                refine XS.iconst X339.here hx rfl (hb hby at_285) ?_
                exact retN X339 hx (t := .boolean) Bd.returns (by simp) (hb hby at_286) hr
              · show Q0 Z qa qb qd vc vk qq h0 n0 _ T339.heap _
                rw [e339]
                exact ⟨rfl, N339⟩
set_option maxRecDepth 65536 in
set_option maxHeartbeats 40000000 in
theorem comes_1 {Post : Tables → Env → Array Value → State → Outcome → State → Prop} (hpost : ∀ tb e args s v u, (limb_1_1.after args s (.returned v) u = true ∧ limb_1_2.after args s (.returned v) u = true ∧ True) → FrameEnd s (.returned v) u (Jvm.fieldLocs frame_1_writes args s ++ Jvm.arrayLocs frame_1_arrays args s ++ Jvm.staticLocs frame_1_statics s) 16 192 → Post tb e args s (.returned v) u) :
    ArmFor flags0 classFile x code maxLocals ret World_1 tables_1 room_1 Calls_1 rest_1 Pre_1 Post := by
  intro l hfl _ _ p e ha hc hk s m args below hf hA hF happ hP
  obtain ⟨hcalls, hrest, hpre⟩ := hP
  obtain ⟨-, -, -, hnamed, -, -, -, hat⟩ := (Spec.applies_iff hf).mp happ
  obtain ⟨hg, hn⟩ := and_e (Cond.before_iff.mp (show (Jvm.Cond.and given_1 narrow_1).before args s = true from hpre))
  obtain ⟨g0, gr0⟩ := and_e hg
  obtain ⟨ga0, gr1⟩ := and_e gr0
  obtain ⟨ga1, gr2⟩ := and_e gr1
  obtain ⟨ga2, gr3⟩ := and_e gr2
  obtain ⟨ga3, gr4⟩ := and_e gr3
  obtain ⟨ga4, gr5⟩ := and_e gr4
  obtain ⟨w0, w1, w2, w3, w4, w5, rfl⟩ : ∃ w0 w1 w2 w3 w4 w5 : Value, args = #[w0, w1, w2, w3, w4, w5] := by
    have hs : args.size = 6 := by simpa [Cond.value, given_1] using g0
    obtain ⟨L⟩ := args
    match L, hs with
    | [w0, w1, w2, w3, w4, w5], _ => exact ⟨w0, w1, w2, w3, w4, w5, rfl⟩
  have hw := fun d (hd : d ∈ tables_1) => atoms_spec (ws := Jvm.Cond.code x code maxLocals ret :: tables_1) hat d (List.mem_cons_of_mem _ hd)
  have hfit : Fit s := fun {y c} hc i hi => by
    obtain ⟨ha, rfl⟩ := Array.getElem?_eq_some_iff.mp hc
    have q := List.all_eq_true.mp ((Array.all_eq_true_iff_forall_mem.mp hF) _ (Array.getElem_mem ha)) i (List.mem_range.mpr hi)
    simpa [Array.getElem?_eq_getElem hi] using q
  obtain ⟨i0, ei0⟩ := isL_v ga0
  obtain rfl : w0 = (.long i0) := Option.some.inj ei0
  obtain ⟨i1, ei1⟩ := isL_v ga1
  obtain rfl : w1 = (.long i1) := Option.some.inj ei1
  obtain ⟨i2, ei2⟩ := isL_v ga2
  obtain rfl : w2 = (.long i2) := Option.some.inj ei2
  obtain ⟨i3, ei3⟩ := is_v ga3
  obtain rfl : w3 = (.int i3) := Option.some.inj ei3
  obtain ⟨i4, ei4⟩ := is_v ga4
  obtain rfl : w4 = (.int i4) := Option.some.inj ei4
  obtain ⟨i5, ei5⟩ := isL_v gr5
  obtain rfl : w5 = (.long i5) := Option.some.inj ei5
  obtain ⟨n, o, h1, h2, h3, v0, L, rfl, hQ, hq⟩ := rm0 l s _ hw tables_1 i0 i1 i2 i3 i4 i5 s.heap s.heap.size (Nat.le_refl _)  p e ha hc hk s m _ below hf ((Spec.applies_iff_loose hf).mp happ).1 ⟨rfl, State.Warmed39.refl s, rfl⟩ trivial
  obtain ⟨rfl, N⟩ : v0 = some (.int (1 : Int32)) ∧ Fr s.heap.size L := hQ
  refine ⟨n, _, h1, h2, h3, hpost _ _ _ _ _ _ ⟨Cond.after_iff.mpr rfl, Cond.after_iff.mpr (eq_i res_at (Term.int_eval (1)) rfl), trivial⟩ ⟨hq.1, hq.2.1, (hq.2.2.sift fun y hy => Or.inr (N y hy)).mono (by decide) (by decide)⟩⟩
theorem main_1_1 : Claimed_1_1 := comes_1 fun _ _ _ _ _ _ h hF => ⟨h.1, hF⟩
theorem main_1_2 : Claimed_1_2 := comes_1 fun _ _ _ _ _ _ h hF => ⟨h.2.1, hF⟩
end Jvm.Pilot.@@N@@
namespace Jvm.Pilot.@@N@@
open Jvm Jvm.ClassFile Sem Op Lib Jvm.Free Jvm.Stand Jvm.Pilot.@@N@@.Jvm.D
/-! MADE BY PROGRAM (witnessworld.py) out of the Statement's table words and the real class files: 13 classes; the members and pool entries that the words name. The judged class is class 1, her method 1. -/
namespace start1
open Jvm.ClassFile
def u (s : String) : CpInfo := .utf8 (stringToUtf16 s)
/-- a pool by its gaps: so many unusable entries, then the entry; so many at the end -/
def gap : Nat → List CpInfo → List CpInfo
  | 0, r => r
  | n + 1, r => .unusable :: gap n r
def poolList (es : List (Nat × CpInfo)) (last : Nat) : List CpInfo := es.foldr (fun e r => gap e.1 (e.2 :: r)) (gap last [])
def pool (es : List (Nat × CpInfo)) (last : Nat) : Array CpInfo := ⟨poolList es last⟩
def fileOf (pool : Array CpInfo) (this : Nat) (attrs : Array Attribute := #[]) (ms : Array MethodInfo := #[]) (fl : Nat := 33) (sup : Nat := 0) (ifs : Array Nat := #[]) (fds : Array FieldInfo := #[]) : ClassFile where
  minorVersion := 0
  majorVersion := 65
  constantPool := pool
  accessFlags := fl
  thisClass := this
  superClass := sup
  interfaces := ifs
  fields := fds
  methods := ms
  attributes := attrs
def plain (name : String) (sup : Option ClassId) : Class where
  name := name
  kind := .ordinary
  loader := none
  accessFlags := 33
  super := sup
  interfaces := #[]
  cf := none
  fields := #[]
  methods := #[]
  instanceTypes := #[]
  staticTypes := #[]
  resolved := #[]
  callSites := []
  init := .initialized
  statics := none
  mirror := none

def pool0 : Array CpInfo := pool [(5, u "<init>"), (0, u "()V"), (1, .class_ 10), (1, u "java/lang/Object")] 113

def k0c0 : Code := { maxStack := 0, maxLocals := 1, code := object_method_1_code, exceptionTable := #[], attributes := #[] }
def k0m0 : Method := { name := "<init>", desc := "()V", sig := { parameters := [], returnType := none }, accessFlags := 1, code := some k0c0 }
/-- java/lang/Object -/
def k0 : Class := { plain "java/lang/Object" none with
  accessFlags := 33
  interfaces := #[]
  cf := some (fileOf pool0 8 #[] #[{ accessFlags := 1, nameIndex := 5, descriptorIndex := 6, attributes := #[] }] 33 0 #[] #[])
  fields := #[]
  methods := #[k0m0]
  instanceTypes := #[]
  staticTypes := #[]
  resolved := Array.replicate 124 none
  statics := none }

def pool1 : Array CpInfo := pool [(2, .class_ 4), (0, .nameAndType 5 6), (0, u "java/lang/Object"), (0, u "<init>"), (0, u "()V"), (0, .long 800), (1, .class_ 10), (0, u "com/example/foreslot/foreslot/CountsByEnd"), (0, .methodref 9 3), (0, .methodref 9 13), (0, .nameAndType 14 15), (0, u "add"), (0, u "(JJ)V"), (0, .methodref 9 17), (0, .nameAndType 18 19), (0, u "firstReaching"), (0, u "(J)I"), (0, .methodref 9 21), (0, .nameAndType 22 23), (0, u "size"), (0, u "()I"), (0, .methodref 9 25), (0, .nameAndType 26 27), (0, u "end"), (0, u "(I)J"), (0, .methodref 9 29), (0, .nameAndType 30 31), (0, u "heldUntilAtLatest"), (0, u "(J)J"), (0, .class_ 33), (0, u "com/example/foreslot/foreslot/CountsByEndFirstReachingPinLaw"), (2, u "law"), (0, u "(JJJIIJ)Z")] 3

def k1m0 : Method := { name := "<init>", desc := "()V", sig := { parameters := [], returnType := none }, accessFlags := 1, code := none }
def k1c1 : Code := { maxStack := 5, maxLocals := 28, code := code, exceptionTable := #[], attributes := #[] }
def k1m1 : Method := { name := "law", desc := "(JJJIIJ)Z", sig := { parameters := [.long, .long, .long, .int, .int, .long], returnType := some .boolean }, accessFlags := 9, code := some k1c1 }
/-- com/example/foreslot/foreslot/CountsByEndFirstReachingPinLaw -/
def k1 : Class := { plain "com/example/foreslot/foreslot/CountsByEndFirstReachingPinLaw" (some 0) with
  accessFlags := 49
  interfaces := #[]
  cf := some (fileOf pool1 32 #[] #[{ accessFlags := 1, nameIndex := 5, descriptorIndex := 6, attributes := #[] }, { accessFlags := 9, nameIndex := 36, descriptorIndex := 37, attributes := #[] }] 49 2 #[] #[])
  fields := #[]
  methods := #[k1m0, k1m1]
  instanceTypes := #[]
  staticTypes := #[]
  resolved := Array.replicate 41 none
  statics := none }

def pool2 : Array CpInfo := pool [(1, .methodref 2 3), (0, .class_ 4), (0, .nameAndType 5 6), (0, u "java/lang/Object"), (0, u "<init>"), (0, u "()V"), (0, .class_ 8), (0, u "com/example/foreslot/foreslot/CountsByEnd"), (0, .fieldref 7 10), (0, .nameAndType 11 12), (0, u "ends"), (0, u "[J"), (0, .fieldref 7 14), (0, .nameAndType 15 12), (0, u "counts"), (0, .fieldref 7 17), (0, .nameAndType 18 19), (0, u "size"), (0, u "I"), (0, .methodref 21 22), (0, .class_ 23), (0, .nameAndType 24 25), (0, u "java/util/Arrays"), (0, u "binarySearch"), (0, u "([JIIJ)I"), (4, .methodref 31 32), (0, .class_ 33), (0, .nameAndType 34 35), (0, u "java/lang/System"), (0, u "arraycopy"), (0, u "(Ljava/lang/Object;ILjava/lang/Object;II)V"), (9, u "FIRST_CAPACITY"), (4, u "add"), (0, u "(JJ)V"), (2, u "heldUntilAtLatest"), (0, u "(J)J"), (0, u "firstReaching"), (0, u "(J)I"), (0, u "()I"), (0, u "end"), (0, u "(I)J")] 18

def k2c0 : Code := { maxStack := 2, maxLocals := 1, code := prog_20_method_1_code, exceptionTable := #[], attributes := #[] }
def k2m0 : Method := { name := "<init>", desc := "()V", sig := { parameters := [], returnType := none }, accessFlags := 0, code := some k2c0 }
def k2c1 : Code := { maxStack := 6, maxLocals := 6, code := prog_20_method_2_code, exceptionTable := #[], attributes := #[] }
def k2m1 : Method := { name := "add", desc := "(JJ)V", sig := { parameters := [.long, .long], returnType := none }, accessFlags := 0, code := some k2c1 }
def k2c2 : Code := { maxStack := 4, maxLocals := 6, code := prog_20_method_4_code, exceptionTable := #[], attributes := #[] }
def k2m2 : Method := { name := "heldUntilAtLatest", desc := "(J)J", sig := { parameters := [.long], returnType := some .long }, accessFlags := 0, code := some k2c2 }
def k2c3 : Code := { maxStack := 4, maxLocals := 6, code := prog_20_method_5_code, exceptionTable := #[], attributes := #[] }
def k2m3 : Method := { name := "firstReaching", desc := "(J)I", sig := { parameters := [.long], returnType := some .int }, accessFlags := 0, code := some k2c3 }
def k2c4 : Code := { maxStack := 1, maxLocals := 1, code := prog_20_method_6_code, exceptionTable := #[], attributes := #[] }
def k2m4 : Method := { name := "size", desc := "()I", sig := { parameters := [], returnType := some .int }, accessFlags := 0, code := some k2c4 }
def k2c5 : Code := { maxStack := 2, maxLocals := 2, code := prog_20_method_7_code, exceptionTable := #[], attributes := #[] }
def k2m5 : Method := { name := "end", desc := "(I)J", sig := { parameters := [.int], returnType := some .long }, accessFlags := 0, code := some k2c5 }
/-- com/example/foreslot/foreslot/CountsByEnd -/
def k2 : Class := { plain "com/example/foreslot/foreslot/CountsByEnd" (some 0) with
  accessFlags := 48
  interfaces := #[]
  cf := some (fileOf pool2 7 #[] #[{ accessFlags := 0, nameIndex := 5, descriptorIndex := 6, attributes := #[] }, { accessFlags := 0, nameIndex := 50, descriptorIndex := 51, attributes := #[] }, { accessFlags := 0, nameIndex := 54, descriptorIndex := 55, attributes := #[] }, { accessFlags := 0, nameIndex := 56, descriptorIndex := 57, attributes := #[] }, { accessFlags := 0, nameIndex := 18, descriptorIndex := 58, attributes := #[] }, { accessFlags := 0, nameIndex := 59, descriptorIndex := 60, attributes := #[] }] 48 2 #[] #[{ accessFlags := 26, nameIndex := 45, descriptorIndex := 19, attributes := #[] }, { accessFlags := 2, nameIndex := 11, descriptorIndex := 12, attributes := #[] }, { accessFlags := 2, nameIndex := 15, descriptorIndex := 12, attributes := #[] }, { accessFlags := 2, nameIndex := 18, descriptorIndex := 19, attributes := #[] }])
  fields := #[{ name := "FIRST_CAPACITY", type := .int, accessFlags := 26, slot := 0, constantValue := 0 }, { name := "ends", type := (.array .long), accessFlags := 2, slot := 0, constantValue := 0 }, { name := "counts", type := (.array .long), accessFlags := 2, slot := 1, constantValue := 0 }, { name := "size", type := .int, accessFlags := 2, slot := 2, constantValue := 0 }]
  methods := #[k2m0, k2m1, k2m2, k2m3, k2m4, k2m5]
  instanceTypes := #[(.array .long), (.array .long), .int]
  staticTypes := #[.int]
  resolved := Array.replicate 79 none
  statics := none }

def pool3 : Array CpInfo := pool [(2, .class_ 4), (1, u "java/lang/Object"), (0, u "<init>"), (0, u "()V"), (6, .methodref 14 15), (0, .class_ 16), (0, .nameAndType 17 18), (0, u "java/util/Arrays"), (0, u "rangeCheck"), (0, u "(III)V"), (55, .class_ 76), (1, u "java/util/Arrays$NaturalOrder"), (36, .class_ 115), (1, u "java/util/Arrays$LegacyMergeSort"), (1, u "Z"), (87, .methodref 14 206), (0, .nameAndType 207 208), (0, u "binarySearch0"), (0, u "([JIIJ)I"), (166, .class_ 376), (0, u "java/util/Arrays$ArrayList"), (68, u "$assertionsDisabled"), (269, u "MIN_ARRAY_SORT_GRAN"), (0, u "I"), (2, u "INSERTIONSORT_THRESHOLD"), (74, u "binarySearch"), (180, .class_ 976), (0, u "java/util/Arrays$ArrayItr")] 52

def k3m0 : Method := { name := "<init>", desc := "()V", sig := { parameters := [], returnType := none }, accessFlags := 2, code := none }
def k3c1 : Code := { maxStack := 4, maxLocals := 3, code := jdk_65_method_30_code, exceptionTable := #[], attributes := #[] }
def k3m1 : Method := { name := "rangeCheck", desc := "(III)V", sig := { parameters := [.int, .int, .int], returnType := none }, accessFlags := 8, code := some k3c1 }
def k3c2 : Code := { maxStack := 5, maxLocals := 5, code := jdk_65_method_55_code, exceptionTable := #[], attributes := #[] }
def k3m2 : Method := { name := "binarySearch", desc := "([JIIJ)I", sig := { parameters := [(.array .long), .int, .int, .long], returnType := some .int }, accessFlags := 9, code := some k3c2 }
def k3c3 : Code := { maxStack := 4, maxLocals := 10, code := jdk_65_method_56_code, exceptionTable := #[], attributes := #[] }
def k3m3 : Method := { name := "binarySearch0", desc := "([JIIJ)I", sig := { parameters := [(.array .long), .int, .int, .long], returnType := some .int }, accessFlags := 10, code := some k3c3 }
/-- java/util/Arrays -/
def k3 : Class := { plain "java/util/Arrays" (some 0) with
  accessFlags := 49
  interfaces := #[]
  cf := some (fileOf pool3 14 #[.nestMembers #[975, 375, 113, 74]] #[{ accessFlags := 2, nameIndex := 5, descriptorIndex := 6, attributes := #[] }, { accessFlags := 8, nameIndex := 17, descriptorIndex := 18, attributes := #[] }, { accessFlags := 9, nameIndex := 794, descriptorIndex := 208, attributes := #[] }, { accessFlags := 10, nameIndex := 207, descriptorIndex := 208, attributes := #[] }] 49 2 #[] #[{ accessFlags := 26, nameIndex := 715, descriptorIndex := 716, attributes := #[] }, { accessFlags := 26, nameIndex := 719, descriptorIndex := 716, attributes := #[] }, { accessFlags := 4120, nameIndex := 445, descriptorIndex := 117, attributes := #[] }])
  fields := #[{ name := "MIN_ARRAY_SORT_GRAN", type := .int, accessFlags := 26, slot := 0, constantValue := 0 }, { name := "INSERTIONSORT_THRESHOLD", type := .int, accessFlags := 26, slot := 1, constantValue := 0 }, { name := "$assertionsDisabled", type := .boolean, accessFlags := 4120, slot := 2, constantValue := 0 }]
  methods := #[k3m0, k3m1, k3m2, k3m3]
  instanceTypes := #[]
  staticTypes := #[.int, .int, .boolean]
  resolved := Array.replicate 1029 none
  statics := none }

def pool4 : Array CpInfo := pool [(2, .class_ 4), (1, u "java/lang/Object"), (0, u "<init>"), (0, u "()V"), (1, .class_ 10), (1, u "java/lang/System"), (0, u "allowSecurityManager"), (0, u "I"), (16, u "cons"), (0, u "Ljava/io/Console;"), (77, .class_ 110), (1, u "java/lang/System$CallersHolder"), (43, u "initialErrStream"), (0, u "Ljava/io/PrintStream;"), (19, u "security"), (0, u "Ljava/lang/SecurityManager;"), (31, .class_ 209), (0, u "java/lang/System$1"), (7, u "props"), (0, u "Ljava/util/Properties;"), (2, u "lineSeparator"), (0, u "Ljava/lang/String;"), (96, .class_ 321), (1, u "java/lang/System$LoggerFinder"), (5, .class_ 328), (0, u "java/lang/System$Logger"), (67, u "err"), (2, u "out"), (91, u "notSupportedJnuEncoding"), (15, u "in"), (17, u "initialIn"), (0, u "Ljava/io/InputStream;"), (35, u "bootLayer"), (0, u "Ljava/lang/ModuleLayer;"), (99, .class_ 664), (0, u "java/lang/System$2"), (9, u "NEVER"), (2, u "MAYBE"), (49, u "arraycopy"), (0, u "(Ljava/lang/Object;ILjava/lang/Object;II)V"), (72, .class_ 802), (0, u "java/lang/System$Logger$Level")] 31

def k4m0 : Method := { name := "<init>", desc := "()V", sig := { parameters := [], returnType := none }, accessFlags := 2, code := none }
def k4m1 : Method := { name := "arraycopy", desc := "(Ljava/lang/Object;ILjava/lang/Object;II)V", sig := { parameters := [(.object "java/lang/Object"), .int, (.object "java/lang/Object"), .int, .int], returnType := none }, accessFlags := 265, code := none }
/-- java/lang/System -/
def k4 : Class := { plain "java/lang/System" (some 0) with
  accessFlags := 49
  interfaces := #[]
  cf := some (fileOf pool4 8 #[.nestMembers #[319, 327, 801, 108, 663, 208]] #[{ accessFlags := 2, nameIndex := 5, descriptorIndex := 6, attributes := #[] }, { accessFlags := 265, nameIndex := 727, descriptorIndex := 728, attributes := #[] }] 49 2 #[] #[{ accessFlags := 25, nameIndex := 507, descriptorIndex := 526, attributes := #[] }, { accessFlags := 25, nameIndex := 399, descriptorIndex := 155, attributes := #[] }, { accessFlags := 25, nameIndex := 396, descriptorIndex := 155, attributes := #[] }, { accessFlags := 10, nameIndex := 525, descriptorIndex := 526, attributes := #[] }, { accessFlags := 26, nameIndex := 674, descriptorIndex := 12, attributes := #[] }, { accessFlags := 26, nameIndex := 677, descriptorIndex := 12, attributes := #[] }, { accessFlags := 10, nameIndex := 11, descriptorIndex := 12, attributes := #[] }, { accessFlags := 74, nameIndex := 175, descriptorIndex := 176, attributes := #[] }, { accessFlags := 10, nameIndex := 491, descriptorIndex := 222, attributes := #[] }, { accessFlags := 74, nameIndex := 29, descriptorIndex := 30, attributes := #[] }, { accessFlags := 74, nameIndex := 154, descriptorIndex := 155, attributes := #[] }, { accessFlags := 10, nameIndex := 217, descriptorIndex := 218, attributes := #[] }, { accessFlags := 10, nameIndex := 221, descriptorIndex := 222, attributes := #[] }, { accessFlags := 8, nameIndex := 562, descriptorIndex := 563, attributes := #[] }])
  fields := #[{ name := "in", type := (.object "java/io/InputStream"), accessFlags := 25, slot := 0, constantValue := 0 }, { name := "out", type := (.object "java/io/PrintStream"), accessFlags := 25, slot := 1, constantValue := 0 }, { name := "err", type := (.object "java/io/PrintStream"), accessFlags := 25, slot := 2, constantValue := 0 }, { name := "initialIn", type := (.object "java/io/InputStream"), accessFlags := 10, slot := 3, constantValue := 0 }, { name := "NEVER", type := .int, accessFlags := 26, slot := 4, constantValue := 0 }, { name := "MAYBE", type := .int, accessFlags := 26, slot := 5, constantValue := 0 }, { name := "allowSecurityManager", type := .int, accessFlags := 10, slot := 6, constantValue := 0 }, { name := "security", type := (.object "java/lang/SecurityManager"), accessFlags := 74, slot := 7, constantValue := 0 }, { name := "notSupportedJnuEncoding", type := (.object "java/lang/String"), accessFlags := 10, slot := 8, constantValue := 0 }, { name := "cons", type := (.object "java/io/Console"), accessFlags := 74, slot := 9, constantValue := 0 }, { name := "initialErrStream", type := (.object "java/io/PrintStream"), accessFlags := 74, slot := 10, constantValue := 0 }, { name := "props", type := (.object "java/util/Properties"), accessFlags := 10, slot := 11, constantValue := 0 }, { name := "lineSeparator", type := (.object "java/lang/String"), accessFlags := 10, slot := 12, constantValue := 0 }, { name := "bootLayer", type := (.object "java/lang/ModuleLayer"), accessFlags := 8, slot := 13, constantValue := 0 }]
  methods := #[k4m0, k4m1]
  instanceTypes := #[]
  staticTypes := #[(.object "java/io/InputStream"), (.object "java/io/PrintStream"), (.object "java/io/PrintStream"), (.object "java/io/InputStream"), .int, .int, .int, (.object "java/lang/SecurityManager"), (.object "java/lang/String"), (.object "java/io/Console"), (.object "java/io/PrintStream"), (.object "java/util/Properties"), (.object "java/lang/String"), (.object "java/lang/ModuleLayer")]
  resolved := Array.replicate 834 none
  statics := none }

def pool5 : Array CpInfo := pool [(1, u "java/lang/Cloneable"), (0, .class_ 1), (0, u "java/lang/Object"), (0, .class_ 3)] 3

/-- java/lang/Cloneable -/
def k5 : Class := { plain "java/lang/Cloneable" (some 0) with
  accessFlags := 1537
  interfaces := #[]
  cf := some (fileOf pool5 2 #[] #[] 1537 4 #[] #[])
  fields := #[]
  methods := #[]
  instanceTypes := #[]
  staticTypes := #[]
  resolved := Array.replicate 8 none
  statics := none }

def pool6 : Array CpInfo := pool [(1, u "java/io/Serializable"), (0, .class_ 1), (0, u "java/lang/Object"), (0, .class_ 3)] 3

/-- java/io/Serializable -/
def k6 : Class := { plain "java/io/Serializable" (some 0) with
  accessFlags := 1537
  interfaces := #[]
  cf := some (fileOf pool6 2 #[] #[] 1537 4 #[] #[])
  fields := #[]
  methods := #[]
  instanceTypes := #[]
  staticTypes := #[]
  resolved := Array.replicate 8 none
  statics := none }

/-- the primitive byte -/
def k7 : Class := { plain "byte" none with kind := .primitive 'B', accessFlags := 0x411 }
/-- [B -/
def k8 : Class := { plain "[B" (some 0) with kind := .array 7 .byte, interfaces := #[5, 6], accessFlags := 1041 }

/-- the primitive int -/
def k9 : Class := { plain "int" none with kind := .primitive 'I', accessFlags := 0x411 }
/-- [I -/
def k10 : Class := { plain "[I" (some 0) with kind := .array 9 .int, interfaces := #[5, 6], accessFlags := 1041 }

/-- the primitive long -/
def k11 : Class := { plain "long" none with kind := .primitive 'J', accessFlags := 0x411 }
/-- [J -/
def k12 : Class := { plain "[J" (some 0) with kind := .array 11 .long, interfaces := #[5, 6], accessFlags := 1041 }

def heap : Heap := #[]
def classes : Array Class := #[k0, k1, k2, k3, k4, k5, k6, k7, k8, k9, k10, k11, k12]
def interned : List (Array UInt16 × Addr) := []
def slotsUsed : Nat := 0
def theMethod : MethodId := ⟨1, 1⟩
def args0 : Array Value := #[.long 5, .long 6, .long 0, .int 7, .int 3, .long 8]
def aboutOver (below : List Frame) : State where
  vm := { classes := classes, interned := interned.toArray }
  heap := heap
  slotsUsed := slotsUsed
  threads := #[{ frames := .invoking theMethod args0 :: below }]
def below0 : List Frame := [.native { method := ⟨0, 0⟩, args := #[] }]
def about1 : State := aboutOver below0
def p0 : Program := .bare "" "" ""
def e0 : Env := launch0.env 0 0 0
theorem w_frames : about1.frames = Frame.invoking theMethod args0 :: below0 := rfl
set_option maxRecDepth 65536 in
theorem w_args : argsFit about1.vm theMethod args0 = true := by decide +kernel
set_option maxRecDepth 65536 in
theorem w_heap : heapFits about1 = true := by decide +kernel
set_option maxRecDepth 65536 in
theorem w_runnable : about1.curStatus? = some .runnable := by decide +kernel
set_option maxRecDepth 65536 in
theorem w_alone : about1.alone = true := by decide +kernel
set_option maxRecDepth 65536 in
theorem w_named : about1.methodNamed? x = some theMethod := by decide +kernel
set_option maxRecDepth 65536 in
theorem w_hears : about1.hears theMethod below0 = true := by decide +kernel
set_option maxRecDepth 65536 in
theorem w_ripe : about1.ripe theMethod args0 below0 = true := by decide +kernel
theorem w_running : about1.status = .running := rfl
set_option maxRecDepth 65536 in
theorem w_room : about1.hasRoom e0.platform room_1 = true :=
  launch0.hasRoom_least _ room_1 (by decide +kernel) (by decide +kernel) (by decide +kernel) (by decide +kernel) (by decide +kernel) (by decide +kernel)
theorem allAtoms_all (ts : List Jvm.Cond) (a : Array Jvm.Value) (st : Jvm.State) : (allAtoms ts).before a st = ts.all (fun c => c.before a st) := by
  induction ts with
  | nil => rfl
  | cons c t ih =>
    show (Jvm.Cond.and c (allAtoms t)).before a st = _
    rw [Jvm.Cond.before_and, ih, List.all_cons]
def words1 : List Jvm.Cond := Jvm.Cond.code x code maxLocals ret :: tables_1
/-- a 'code' word, met by the world's own term for the bytes: nothing is compared byte by byte -/
theorem code_word {y : MethodName} {bytes : ByteArray} {mx : Nat} {rt : Option FieldType} {a : Array Value} {s : State} {m : MethodId} {meth : Method} {c : Code} (h1 : s.methodNamed? y = some m) (h2 : s.vm.method? m = some meth) (h3 : meth.code = some c) (h4 : c.code = bytes)
    (h5 : (c.maxLocals == mx && c.exceptionTable.isEmpty && decide (c.maxStack ≤ mostOperands) && decide (meth.sig.returnType = rt) && !meth.locks && decide (parseMethodDescriptor y.desc = some meth.sig)) = true) : (Jvm.Cond.code y bytes mx rt).before a s = true := by
  simp only [Bool.and_eq_true, beq_iff_eq, Bool.not_eq_true', decide_eq_true_eq] at h5
  obtain ⟨⟨⟨⟨⟨g1, g2⟩, g3⟩, g4⟩, g5⟩, g6⟩ := h5
  simp [Cond.before, Cond.holds, Cond.value, h1, h2, h3, h4, g1, g2, g3, g4, g5, g6]
def isCode : Jvm.Cond → Bool
  | .code _ _ _ _ => true
  | _ => false
theorem all_split {L : List Jvm.Cond} {P : Jvm.Cond → Bool} (h1 : L.all (fun c => isCode c || P c) = true) (h2 : ∀ c ∈ L.filter isCode, P c = true) : L.all P = true := by
  refine List.all_eq_true.mpr fun c hc => ?_
  have h := List.all_eq_true.mp h1 c hc
  rcases Bool.eq_false_or_eq_true (isCode c) with hi | hi
  · exact h2 c (List.mem_filter.mpr ⟨hc, hi⟩)
  · simpa [hi] using h
set_option maxRecDepth 65536 in
theorem w_c0 : (Jvm.Cond.code x code maxLocals ret).before args0 about1 = true := code_word (m := ⟨1, 1⟩) (meth := k1m1) (c := k1c1) (by decide +kernel) rfl rfl rfl (by decide +kernel)
set_option maxRecDepth 65536 in
theorem w_c1 : (Jvm.Cond.code ({ cls := "com/example/foreslot/foreslot/CountsByEnd", name := "<init>", desc := "()V" } : Jvm.MethodName) prog_20_method_1_code (1 : Nat) (Option.none : Option Jvm.ClassFile.FieldType)).before args0 about1 = true := code_word (m := ⟨2, 0⟩) (meth := k2m0) (c := k2c0) (by decide +kernel) rfl rfl rfl (by decide +kernel)
set_option maxRecDepth 65536 in
theorem w_c2 : (Jvm.Cond.code ({ cls := "java/lang/Object", name := "<init>", desc := "()V" } : Jvm.MethodName) object_method_1_code (1 : Nat) (Option.none : Option Jvm.ClassFile.FieldType)).before args0 about1 = true := code_word (m := ⟨0, 0⟩) (meth := k0m0) (c := k0c0) (by decide +kernel) rfl rfl rfl (by decide +kernel)
set_option maxRecDepth 65536 in
theorem w_c3 : (Jvm.Cond.code ({ cls := "com/example/foreslot/foreslot/CountsByEnd", name := "add", desc := "(JJ)V" } : Jvm.MethodName) prog_20_method_2_code (6 : Nat) (Option.none : Option Jvm.ClassFile.FieldType)).before args0 about1 = true := code_word (m := ⟨2, 1⟩) (meth := k2m1) (c := k2c1) (by decide +kernel) rfl rfl rfl (by decide +kernel)
set_option maxRecDepth 65536 in
theorem w_c4 : (Jvm.Cond.code ({ cls := "java/util/Arrays", name := "binarySearch", desc := "([JIIJ)I" } : Jvm.MethodName) jdk_65_method_55_code (5 : Nat) (Option.some Jvm.ClassFile.FieldType.int)).before args0 about1 = true := code_word (m := ⟨3, 2⟩) (meth := k3m2) (c := k3c2) (by decide +kernel) rfl rfl rfl (by decide +kernel)
set_option maxRecDepth 65536 in
theorem w_c5 : (Jvm.Cond.code ({ cls := "java/util/Arrays", name := "rangeCheck", desc := "(III)V" } : Jvm.MethodName) jdk_65_method_30_code (3 : Nat) (Option.none : Option Jvm.ClassFile.FieldType)).before args0 about1 = true := code_word (m := ⟨3, 1⟩) (meth := k3m1) (c := k3c1) (by decide +kernel) rfl rfl rfl (by decide +kernel)
set_option maxRecDepth 65536 in
theorem w_c6 : (Jvm.Cond.code ({ cls := "java/util/Arrays", name := "binarySearch0", desc := "([JIIJ)I" } : Jvm.MethodName) jdk_65_method_56_code (10 : Nat) (Option.some Jvm.ClassFile.FieldType.int)).before args0 about1 = true := code_word (m := ⟨3, 3⟩) (meth := k3m3) (c := k3c3) (by decide +kernel) rfl rfl rfl (by decide +kernel)
set_option maxRecDepth 65536 in
theorem w_c7 : (Jvm.Cond.code ({ cls := "com/example/foreslot/foreslot/CountsByEnd", name := "firstReaching", desc := "(J)I" } : Jvm.MethodName) prog_20_method_5_code (6 : Nat) (Option.some Jvm.ClassFile.FieldType.int)).before args0 about1 = true := code_word (m := ⟨2, 3⟩) (meth := k2m3) (c := k2c3) (by decide +kernel) rfl rfl rfl (by decide +kernel)
set_option maxRecDepth 65536 in
theorem w_c8 : (Jvm.Cond.code ({ cls := "com/example/foreslot/foreslot/CountsByEnd", name := "size", desc := "()I" } : Jvm.MethodName) prog_20_method_6_code (1 : Nat) (Option.some Jvm.ClassFile.FieldType.int)).before args0 about1 = true := code_word (m := ⟨2, 4⟩) (meth := k2m4) (c := k2c4) (by decide +kernel) rfl rfl rfl (by decide +kernel)
set_option maxRecDepth 65536 in
theorem w_c9 : (Jvm.Cond.code ({ cls := "com/example/foreslot/foreslot/CountsByEnd", name := "end", desc := "(I)J" } : Jvm.MethodName) prog_20_method_7_code (2 : Nat) (Option.some Jvm.ClassFile.FieldType.long)).before args0 about1 = true := code_word (m := ⟨2, 5⟩) (meth := k2m5) (c := k2c5) (by decide +kernel) rfl rfl rfl (by decide +kernel)
set_option maxRecDepth 65536 in
theorem w_c10 : (Jvm.Cond.code ({ cls := "com/example/foreslot/foreslot/CountsByEnd", name := "heldUntilAtLatest", desc := "(J)J" } : Jvm.MethodName) prog_20_method_4_code (6 : Nat) (Option.some Jvm.ClassFile.FieldType.long)).before args0 about1 = true := code_word (m := ⟨2, 2⟩) (meth := k2m2) (c := k2c2) (by decide +kernel) rfl rfl rfl (by decide +kernel)
def codes1 : List Jvm.Cond := [Jvm.Cond.code x code maxLocals ret, Jvm.Cond.code ({ cls := "com/example/foreslot/foreslot/CountsByEnd", name := "<init>", desc := "()V" } : Jvm.MethodName) prog_20_method_1_code (1 : Nat) (Option.none : Option Jvm.ClassFile.FieldType), Jvm.Cond.code ({ cls := "java/lang/Object", name := "<init>", desc := "()V" } : Jvm.MethodName) object_method_1_code (1 : Nat) (Option.none : Option Jvm.ClassFile.FieldType), Jvm.Cond.code ({ cls := "com/example/foreslot/foreslot/CountsByEnd", name := "add", desc := "(JJ)V" } : Jvm.MethodName) prog_20_method_2_code (6 : Nat) (Option.none : Option Jvm.ClassFile.FieldType), Jvm.Cond.code ({ cls := "java/util/Arrays", name := "binarySearch", desc := "([JIIJ)I" } : Jvm.MethodName) jdk_65_method_55_code (5 : Nat) (Option.some Jvm.ClassFile.FieldType.int), Jvm.Cond.code ({ cls := "java/util/Arrays", name := "rangeCheck", desc := "(III)V" } : Jvm.MethodName) jdk_65_method_30_code (3 : Nat) (Option.none : Option Jvm.ClassFile.FieldType), Jvm.Cond.code ({ cls := "java/util/Arrays", name := "binarySearch0", desc := "([JIIJ)I" } : Jvm.MethodName) jdk_65_method_56_code (10 : Nat) (Option.some Jvm.ClassFile.FieldType.int), Jvm.Cond.code ({ cls := "com/example/foreslot/foreslot/CountsByEnd", name := "firstReaching", desc := "(J)I" } : Jvm.MethodName) prog_20_method_5_code (6 : Nat) (Option.some Jvm.ClassFile.FieldType.int), Jvm.Cond.code ({ cls := "com/example/foreslot/foreslot/CountsByEnd", name := "size", desc := "()I" } : Jvm.MethodName) prog_20_method_6_code (1 : Nat) (Option.some Jvm.ClassFile.FieldType.int), Jvm.Cond.code ({ cls := "com/example/foreslot/foreslot/CountsByEnd", name := "end", desc := "(I)J" } : Jvm.MethodName) prog_20_method_7_code (2 : Nat) (Option.some Jvm.ClassFile.FieldType.long), Jvm.Cond.code ({ cls := "com/example/foreslot/foreslot/CountsByEnd", name := "heldUntilAtLatest", desc := "(J)J" } : Jvm.MethodName) prog_20_method_4_code (6 : Nat) (Option.some Jvm.ClassFile.FieldType.long)]
set_option maxRecDepth 65536 in
theorem codes_eq : words1.filter isCode = codes1 := rfl
theorem w_codes : ∀ c ∈ words1.filter isCode, c.before args0 about1 = true := by
  rw [codes_eq]
  intro c hc
  simp only [codes1, List.mem_cons, List.not_mem_nil, or_false] at hc
  rcases hc with rfl | rfl | rfl | rfl | rfl | rfl | rfl | rfl | rfl | rfl | rfl
  · exact w_c0
  · exact w_c1
  · exact w_c2
  · exact w_c3
  · exact w_c4
  · exact w_c5
  · exact w_c6
  · exact w_c7
  · exact w_c8
  · exact w_c9
  · exact w_c10
set_option maxRecDepth 65536 in
theorem w_t1 : (words1.take 24).all (fun c => isCode c || c.before args0 about1) = true := by decide +kernel
set_option maxRecDepth 65536 in
theorem w_t2 : ((words1.drop 24).take 24).all (fun c => isCode c || c.before args0 about1) = true := by decide +kernel
set_option maxRecDepth 65536 in
theorem w_t3 : ((words1.drop 24).drop 24).all (fun c => isCode c || c.before args0 about1) = true := by decide +kernel
theorem w_tables : (allAtoms (Jvm.Cond.code x code maxLocals ret :: tables_1)).before args0 about1 = true := by
  rw [allAtoms_all]
  show words1.all (fun c => c.before args0 about1) = true
  refine all_split ?_ w_codes
  rw [← List.take_append_drop 24 words1, List.all_append, w_t1, ← List.take_append_drop 24 (words1.drop 24), List.all_append, w_t2, w_t3]
  rfl
set_option maxRecDepth 65536 in
theorem w_case : (Jvm.Cond.and given_1 narrow_1).before args0 about1 = true := by decide +kernel
theorem w_applies : (headSpec (Jvm.Cond.code x code maxLocals ret :: tables_1) room_1).applies x e0.platform about1 = true :=
  (Spec.applies_iff w_frames).mpr ⟨w_running, w_runnable, w_alone, w_named, w_hears, w_ripe, w_room, w_tables⟩
theorem atStart : AtStart classFile x code maxLocals ret World_1 tables_1 room_1 Calls_1 rest_1 Pre_1 launch0 p0 e0 about1 theMethod args0 below0 :=
  ⟨lists_1, trivial, launch0.admits_env _ _ _, launch0.least_env, fairChoices_fair.cas, fairChoices_fair.clock, w_frames, w_args, w_heap, w_applies, trivial, trivial, w_case⟩
end start1
theorem witness_1 : WitnessClaimed_1 := ⟨start1.p0, start1.e0, start1.about1, start1.theMethod, start1.args0, start1.below0, start1.atStart⟩
end Jvm.Pilot.@@N@@
