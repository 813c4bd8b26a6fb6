import JvmDerived
import JvmDerived.Pilot.@@N@@Statement
import JvmDerived.Pilot.@@N@@Code
set_option linter.unusedVariables false
set_option linter.unusedSimpArgs false
namespace Jvm.RoadKit
open Sem ClassFile Op Lib Jvm.Stand Jvm.Free Jvm.LawKit
section New
variable {p : Program} {l : Launch} {e : Env} {R : Room} {s : State} {m : MethodId} {args : Array Value} {below : List Frame} {meth : Method} {c : Code} {T : State} {locs : List Loc} {cells slots : Nat}
theorem retI (X : Stand p l e R s m args below meth c T locs cells slots) (hx : p.tables.exec = Jvm.exec) {pc : Nat} {Ls : Array Slot} {z : Int32} {rest : List Value} (hret : meth.sig.returnType = some .int) (hd : decode c.code pc = .ok (.ireturn, 1)) {fs : List Frame}
    (hl : ∀ (f : JFrame) (acts : List Action), f.method = m → f.locked = none → f.entered = [] → (doReturn e (T.setTop f) acts (some (.int z))).1 = T.setFrames fs) : Steps p.tables e below (T.setTop (mkF m pc Ls (.int z :: rest))) (T.setFrames fs) := by
  have hm' : T.vm.method? m = some meth := X.method'
  have hn : narrow .int (.int z) = .int z := rfl
  show Steps p.tables e below (T.setTop { method := m, pc := pc, locals := Ls, stack := _ :: rest, locked := none }) _
  jvm_step X.here [X.here.top, hx, hd, hm', hret, hn]
  first | (intro acts; rw [hl _ acts rfl rfl rfl]) | rw [hl _ _ rfl rfl rfl]
  exact Steps.refl _
end New
end Jvm.RoadKit
namespace Jvm.Pilot.@@N@@
open Jvm Jvm.ClassFile Sem Op Lib Jvm.Free Jvm.Stand Jvm.LawKit Jvm.RoadKit Bundle Jvm.Pilot.@@N@@.Jvm.D
theorem own_tlt {a b : Int32} {x y : Int} (ha : a.toInt = x) (hb : b.toInt = y) (h : x < y) : if_icmp.holds .lt a b = true ∧ if_icmp.holds .ge a b = false ∧ if_icmp.holds .gt b a = true ∧ if_icmp.holds .le b a = false := tlt (Int32.lt_iff_toInt_lt.mpr (by rw [ha, hb]; exact h))
theorem own_flt {a b : Int32} {x y : Int} (ha : a.toInt = x) (hb : b.toInt = y) (h : ¬ x < y) : if_icmp.holds .lt a b = false ∧ if_icmp.holds .ge a b = true ∧ if_icmp.holds .gt b a = false ∧ if_icmp.holds .le b a = true := flt (fun q => h (by rw [← ha, ← hb]; exact Int32.lt_iff_toInt_lt.mp q))
theorem own_teq {a b : Int32} {x y : Int} (ha : a.toInt = x) (hb : b.toInt = y) (h : x = y) : if_icmp.holds .eq a b = true ∧ if_icmp.holds .ne a b = false := teq (Int32.toInt_inj.mp (by rw [ha, hb]; exact h))
theorem own_feq {a b : Int32} {x y : Int} (ha : a.toInt = x) (hb : b.toInt = y) (h : ¬ x = y) : if_icmp.holds .eq a b = false ∧ if_icmp.holds .ne a b = true := feq (fun q => h (by rw [← ha, ← hb, q]))
theorem own_if {cd : ClassFile.Cond} {x : Int32} {b : Bool} (h : if_icmp.holds cd x 0 = b) : ifCond.holds cd x = b := (if0 cd x).trans h
theorem own_tltL {x y : Int64} {a b : Int} (ha : x.toInt = a) (hb : y.toInt = b) (h : a < b) : if_icmp.holds .lt (lcmpW x y) 0 = true ∧ if_icmp.holds .ge (lcmpW x y) 0 = false := have q := tlt ((lw_lt x y).mpr (Int64.lt_iff_toInt_lt.mpr (by rw [ha, hb]; exact h))); ⟨q.1, q.2.1⟩
theorem own_fltL {x y : Int64} {a b : Int} (ha : x.toInt = a) (hb : y.toInt = b) (h : ¬ a < b) : if_icmp.holds .lt (lcmpW x y) 0 = false ∧ if_icmp.holds .ge (lcmpW x y) 0 = true := have q := flt (fun w => h (by rw [← ha, ← hb]; exact Int64.lt_iff_toInt_lt.mp ((lw_lt x y).mp w))); ⟨q.1, q.2.1⟩
theorem own_tgtL {x y : Int64} {a b : Int} (ha : x.toInt = a) (hb : y.toInt = b) (h : b < a) : if_icmp.holds .gt (lcmpW x y) 0 = true ∧ if_icmp.holds .le (lcmpW x y) 0 = false := have q := tlt ((lw_gt x y).mpr (Int64.lt_iff_toInt_lt.mpr (by rw [ha, hb]; exact h))); ⟨q.2.2.1, q.2.2.2⟩
theorem own_fgtL {x y : Int64} {a b : Int} (ha : x.toInt = a) (hb : y.toInt = b) (h : ¬ b < a) : if_icmp.holds .gt (lcmpW x y) 0 = false ∧ if_icmp.holds .le (lcmpW x y) 0 = true := have q := flt (fun w => h (by rw [← ha, ← hb]; exact Int64.lt_iff_toInt_lt.mp ((lw_gt x y).mp w))); ⟨q.2.2.1, q.2.2.2⟩
theorem own_teqL {x y : Int64} {a b : Int} (ha : x.toInt = a) (hb : y.toInt = b) (h : a = b) : if_icmp.holds .eq (lcmpW x y) 0 = true ∧ if_icmp.holds .ne (lcmpW x y) 0 = false := teq ((lw_eq x y).mpr (Int64.toInt_inj.mp (by rw [ha, hb]; exact h)))
theorem own_feqL {x y : Int64} {a b : Int} (ha : x.toInt = a) (hb : y.toInt = b) (h : ¬ a = b) : if_icmp.holds .eq (lcmpW x y) 0 = false ∧ if_icmp.holds .ne (lcmpW x y) 0 = true := feq (fun w => h (by rw [← ha, ← hb, (lw_eq x y).mp w]))
def own_f (x s c : Int) : Int := if x ≤ s then c else 0
theorem own_fp {x s c : Int} (h : x ≤ s) : own_f x s c = c := if_pos h
theorem own_fn {x s c : Int} (h : ¬ x ≤ s) : own_f x s c = 0 := if_neg h
theorem d6_0 : decode jdk_65_method_30_code 0 = .ok (.iload_n 1, 1) := by decide +kernel
theorem d6_1 : decode jdk_65_method_30_code 1 = .ok (.iload_n 2, 1) := by decide +kernel
theorem d6_2 : decode jdk_65_method_30_code 2 = .ok (.if_icmp .le 44, 3) := by decide +kernel
theorem d6_46 : decode jdk_65_method_30_code 46 = .ok (.iload_n 1, 1) := by decide +kernel
theorem d6_47 : decode jdk_65_method_30_code 47 = .ok (.ifCond .ge 12, 3) := by decide +kernel
theorem d6_59 : decode jdk_65_method_30_code 59 = .ok (.iload_n 2, 1) := by decide +kernel
theorem d6_60 : decode jdk_65_method_30_code 60 = .ok (.iload_n 0, 1) := by decide +kernel
theorem d6_61 : decode jdk_65_method_30_code 61 = .ok (.if_icmp .le 12, 3) := by decide +kernel
theorem d6_73 : decode jdk_65_method_30_code 73 = .ok (.return_, 1) := by decide +kernel
theorem pn_0 : plainName "java/util/Arrays" = true := by first | (simp [plainName, overriddenIn]; done) | decide +kernel
theorem ef_rm6 (m : MethodId) (x0 : Int32) (x1 : Int32) (x2 : Int32) : entryFrame m #[(.int x0), (.int x1), (.int x2)] 3 = mkF m 0 #[.val (.int x0), .val (.int x1), .val (.int x2)] [] := by first | (simp [entryFrame, mkF, argsToLocals, Value.category]; done) | rfl
def Q6 (Z : State) (vn : Int32) (va : Int32) (vb : Int32) (h0 : Heap) (n0 : Nat) (v : Option Value) (h : Heap) (L : List Loc) : Prop := v = none ∧ Fr n0 L ∧ h = h0
set_option maxRecDepth 65536 in
set_option maxHeartbeats 40000000 in
theorem rm6 (l : Launch) (Z : State) (a0 : Array Value) (hw : ∀ d ∈ tables_1, d.before a0 Z = true) (ws : List Jvm.Cond) (vn : Int32) (va : Int32) (vb : Int32) (h0 : Heap) (n0 : Nat) (Z0 : n0 ≤ h0.size) (r1 : 0 ≤ va.toInt) (r2 : va.toInt ≤ vb.toInt) (r3 : vb.toInt ≤ vn.toInt) :
    MetFree l (⟨"java/util/Arrays", "rangeCheck", "(III)V"⟩ : MethodName) (head1 (Jvm.Cond.code (⟨"java/util/Arrays", "rangeCheck", "(III)V"⟩ : MethodName) jdk_65_method_30_code 3 none :: ws) ({ frames := 0, cells := 0, slots := 0, locals := 0 } : Room)) (fun a U => a = #[(.int vn), (.int va), (.int vb)] ∧ Z.Warmed39 U.vm ∧ U.heap = h0) (fun _ _ _ _ _ => True) (fun _ U o U' => ∃ v L, o = .returned v ∧ Q6 Z vn va vb h0 n0 v U'.heap L ∧ FrameEnd U o U' L ({ frames := 0, cells := 0, slots := 0, locals := 0 } : Room).cells ({ frames := 0, cells := 0, slots := 0, locals := 0 } : Room).slots) := by
  refine MetFree.of_bodySF (plainFor_of_name pn_0) hisR ?_
  intro p e s m args below meth c s₁ Bd hml0 hP hK
  obtain ⟨rfl, hZ, hh⟩ := hP
  have hx := Bd.exec
  have hby := Bd.bytes
  have hml : c.maxLocals = 3 := hml0
  have hown : s.vm.findClass "java/util/Arrays" = some m.cls := findClass_of_methodNamed Bd.named
  have hnm := (name_of_methodNamed Bd.named Bd.method).1
  have X0 : Stand p l e ({ frames := 0, cells := 0, slots := 0, locals := 0 } : Room) s m #[(.int vn), (.int va), (.int vb)] below meth c s₁ [] 0 0 := Stand.of_body Bd
  have e0 : s₁.heap = h0 := by rw [← hh, Bd.state]; rfl
  have N0 := Fr.nil n0
  have pre0 : ∀ t, Steps p.tables e below (s₁.setTop (mkF m 0 #[.val (.int vn), .val (.int va), .val (.int vb)] [])) t → Steps p.tables e below (s₁.setTop (entryFrame m #[(.int vn), (.int va), (.int vb)] 3)) t := fun t k => castTop (ef_rm6 m vn va vb) k
  have hc2_1 : ¬ (vb.toInt < va.toInt) := by omega
  have hc47_2 : ¬ (va.toInt < (0 : Int)) := by omega
  have hc61_3 : ¬ (vn.toInt < vb.toInt) := by omega
  obtain ⟨fs, hr, hrun, hended, hW, hsame⟩ := X0.leave (v := none) (fun _ => rfl)
  refine ⟨_, _, pre0 _ ?_, hrun, hended, _, _, rfl, ?_, ⟨_, rfl⟩, hW, hsame.mono (by decide) (by decide)⟩
  · show Steps p.tables e below (s₁.setTop (mkF m 0 #[.val (.int vn), .val (.int va), .val (.int vb)] [])) _
    refine XS.iloadN X0.here hx rfl (hb hby d6_0) rfl ?_
    show Steps p.tables e below (s₁.setTop (mkF m 1 #[.val (.int vn), .val (.int va), .val (.int vb)] [(.int va)])) _
    refine XS.iloadN X0.here hx rfl (hb hby d6_1) rfl ?_
    show Steps p.tables e below (s₁.setTop (mkF m 2 #[.val (.int vn), .val (.int va), .val (.int vb)] [(.int vb), (.int va)])) _
    refine XS.icmpYes X0.here hx rfl (pc0 := 2) (pc' := 46) rfl (hb hby d6_2) rfl (own_flt (a := vb) (b := va) rfl rfl hc2_1).2.2.2 (by decide) (by decide) ?_
    show Steps p.tables e below (s₁.setTop (mkF m 46 #[.val (.int vn), .val (.int va), .val (.int vb)] [])) _
    refine XS.iloadN X0.here hx rfl (hb hby d6_46) rfl ?_
    show Steps p.tables e below (s₁.setTop (mkF m 47 #[.val (.int vn), .val (.int va), .val (.int vb)] [(.int va)])) _
    refine XS.ifYes X0.here hx rfl (pc0 := 47) (pc' := 59) rfl (hb hby d6_47) rfl (own_if (own_flt (a := va) (b := (0 : Int32)) rfl (by decide) hc47_2).2.1) (by decide) (by decide) ?_
    show Steps p.tables e below (s₁.setTop (mkF m 59 #[.val (.int vn), .val (.int va), .val (.int vb)] [])) _
    refine XS.iloadN X0.here hx rfl (hb hby d6_59) rfl ?_
    show Steps p.tables e below (s₁.setTop (mkF m 60 #[.val (.int vn), .val (.int va), .val (.int vb)] [(.int vb)])) _
    refine XS.iloadN X0.here hx rfl (hb hby d6_60) rfl ?_
    show Steps p.tables e below (s₁.setTop (mkF m 61 #[.val (.int vn), .val (.int va), .val (.int vb)] [(.int vn), (.int vb)])) _
    refine XS.icmpYes X0.here hx rfl (pc0 := 61) (pc' := 73) rfl (hb hby d6_61) rfl (own_flt (a := vn) (b := vb) rfl rfl hc61_3).2.2.2 (by decide) (by decide) ?_
    show Steps p.tables e below (s₁.setTop (mkF m 73 #[.val (.int vn), .val (.int va), .val (.int vb)] [])) _
    exact X0.returnOut hx Bd.returns (hb hby d6_73) hr
  · show Q6 Z vn va vb h0 n0 _ s₁.heap _
    rw [e0]
    exact ⟨rfl, N0, rfl⟩
theorem d7_0 : decode jdk_65_method_56_code 0 = .ok (.iload_n 1, 1) := by decide +kernel
theorem d7_1 : decode jdk_65_method_56_code 1 = .ok (.istore 5, 2) := by decide +kernel
theorem d7_3 : decode jdk_65_method_56_code 3 = .ok (.iload_n 2, 1) := by decide +kernel
theorem d7_4 : decode jdk_65_method_56_code 4 = .ok (.iconst 1, 1) := by decide +kernel
theorem d7_5 : decode jdk_65_method_56_code 5 = .ok (.isub, 1) := by decide +kernel
theorem d7_6 : decode jdk_65_method_56_code 6 = .ok (.istore 6, 2) := by decide +kernel
theorem d7_8 : decode jdk_65_method_56_code 8 = .ok (.iload 5, 2) := by decide +kernel
theorem d7_10 : decode jdk_65_method_56_code 10 = .ok (.iload 6, 2) := by decide +kernel
theorem d7_12 : decode jdk_65_method_56_code 12 = .ok (.if_icmp .gt 56, 3) := by decide +kernel
theorem d7_68 : decode jdk_65_method_56_code 68 = .ok (.iload 5, 2) := by decide +kernel
theorem d7_70 : decode jdk_65_method_56_code 70 = .ok (.iconst 1, 1) := by decide +kernel
theorem d7_71 : decode jdk_65_method_56_code 71 = .ok (.iadd, 1) := by decide +kernel
theorem d7_72 : decode jdk_65_method_56_code 72 = .ok (.ineg, 1) := by decide +kernel
theorem d7_73 : decode jdk_65_method_56_code 73 = .ok (.ireturn, 1) := by decide +kernel
theorem ef_rm_bz0 (m : MethodId) (x0 : Addr) (x3 : Int64) : entryFrame m #[(.ref x0), (.int (0 : Int32)), (.int (0 : Int32)), (.long x3)] 10 = mkF m 0 #[.val (.ref x0), .val (.int (0 : Int32)), .val (.int (0 : Int32)), .val (.long x3), .second, .unset, .unset, .unset, .unset, .unset] [] := by first | (simp [entryFrame, mkF, argsToLocals, Value.category]; done) | rfl
def Q_bz0 (Z : State) (oe : Addr) (qk : Int64) (kE : ClassId) (h0 : Heap) (n0 : Nat) (v : Option Value) (h : Heap) (L : List Loc) : Prop := ∃ z : Int32, v = some (.int z) ∧ (z = (-1 : Int32)) ∧ Fr n0 L ∧ h = h0
set_option maxRecDepth 65536 in
set_option maxHeartbeats 40000000 in
theorem rm_bz0 (l : Launch) (Z : State) (a0 : Array Value) (hw : ∀ d ∈ tables_1, d.before a0 Z = true) (ws : List Jvm.Cond) (oe : Addr) (qk : Int64) (kE : ClassId) (h0 : Heap) (n0 : Nat) (Z0 : n0 ≤ h0.size) (Ve : Arv Z h0 oe kE .long (16 : Int32) [(.long (0 : Int64)), (.long (0 : Int64)), (.long (0 : Int64)), (.long (0 : Int64))] (.long (0 : Int64))) :
    MetFree l (⟨"java/util/Arrays", "binarySearch0", "([JIIJ)I"⟩ : MethodName) (head1 (Jvm.Cond.code (⟨"java/util/Arrays", "binarySearch0", "([JIIJ)I"⟩ : MethodName) jdk_65_method_56_code 10 (some .int) :: ws) ({ frames := 0, cells := 0, slots := 0, locals := 0 } : Room)) (fun a U => a = #[(.ref oe), (.int (0 : Int32)), (.int (0 : Int32)), (.long qk)] ∧ Z.Warmed39 U.vm ∧ U.heap = h0) (fun _ _ _ _ _ => True) (fun _ U o U' => ∃ v L, o = .returned v ∧ Q_bz0 Z oe qk kE h0 n0 v U'.heap L ∧ FrameEnd U o U' L ({ frames := 0, cells := 0, slots := 0, locals := 0 } : Room).cells ({ frames := 0, cells := 0, slots := 0, locals := 0 } : Room).slots) := by
  refine MetFree.of_bodySF (plainFor_of_name pn_0) hisR ?_
  intro p e s m args below meth c s₁ Bd hml0 hP hK
  obtain ⟨rfl, hZ, hh⟩ := hP
  have hx := Bd.exec
  have hby := Bd.bytes
  have hml : c.maxLocals = 10 := hml0
  have hown : s.vm.findClass "java/util/Arrays" = some m.cls := findClass_of_methodNamed Bd.named
  have hnm := (name_of_methodNamed Bd.named Bd.method).1
  have X0 : Stand p l e ({ frames := 0, cells := 0, slots := 0, locals := 0 } : Room) s m #[(.ref oe), (.int (0 : Int32)), (.int (0 : Int32)), (.long qk)] below meth c s₁ [] 0 0 := Stand.of_body Bd
  have e0 : s₁.heap = h0 := by rw [← hh, Bd.state]; rfl
  have N0 := Fr.nil n0
  have pre0 : ∀ t, Steps p.tables e below (s₁.setTop (mkF m 0 #[.val (.ref oe), .val (.int (0 : Int32)), .val (.int (0 : Int32)), .val (.long qk), .second, .unset, .unset, .unset, .unset, .unset] [])) t → Steps p.tables e below (s₁.setTop (entryFrame m #[(.ref oe), (.int (0 : Int32)), (.int (0 : Int32)), (.long qk)] 10)) t := fun t k => castTop (ef_rm_bz0 m oe qk) k
  have hc12_1 : (-1 : Int) < (0 : Int) := by decide
  obtain ⟨fs, hr, hrun, hended, hW, hsame⟩ := X0.leave (v := some (.int (-1 : Int32))) (fun h => by rw [Bd.returns] at h; cases h)
  refine ⟨_, _, pre0 _ ?_, hrun, hended, _, _, rfl, ?_, ⟨_, rfl⟩, hW, hsame.mono (by decide) (by decide)⟩
  · show Steps p.tables e below (s₁.setTop (mkF m 0 #[.val (.ref oe), .val (.int (0 : Int32)), .val (.int (0 : Int32)), .val (.long qk), .second, .unset, .unset, .unset, .unset, .unset] [])) _
    refine XS.iloadN X0.here hx rfl (hb hby d7_0) rfl ?_
    show Steps p.tables e below (s₁.setTop (mkF m 1 #[.val (.ref oe), .val (.int (0 : Int32)), .val (.int (0 : Int32)), .val (.long qk), .second, .unset, .unset, .unset, .unset, .unset] [(.int (0 : Int32))])) _
    refine XS.istore X0.here hx rfl (hb hby d7_1) rfl (l' := #[.val (.ref oe), .val (.int (0 : Int32)), .val (.int (0 : Int32)), .val (.long qk), .second, .val (.int (0 : Int32)), .unset, .unset, .unset, .unset]) rfl ?_
    show Steps p.tables e below (s₁.setTop (mkF m 3 #[.val (.ref oe), .val (.int (0 : Int32)), .val (.int (0 : Int32)), .val (.long qk), .second, .val (.int (0 : Int32)), .unset, .unset, .unset, .unset] [])) _
    refine XS.iloadN X0.here hx rfl (hb hby d7_3) rfl ?_
    show Steps p.tables e below (s₁.setTop (mkF m 4 #[.val (.ref oe), .val (.int (0 : Int32)), .val (.int (0 : Int32)), .val (.long qk), .second, .val (.int (0 : Int32)), .unset, .unset, .unset, .unset] [(.int (0 : Int32))])) _
    refine XS.iconst X0.here hx rfl (hb hby d7_4) ?_
    show Steps p.tables e below (s₁.setTop (mkF m 5 #[.val (.ref oe), .val (.int (0 : Int32)), .val (.int (0 : Int32)), .val (.long qk), .second, .val (.int (0 : Int32)), .unset, .unset, .unset, .unset] [(.int (1 : Int32)), (.int (0 : Int32))])) _
    refine XS.isub X0.here hx rfl (hb hby d7_5) rfl ?_
    show Steps p.tables e below (s₁.setTop (mkF m 6 #[.val (.ref oe), .val (.int (0 : Int32)), .val (.int (0 : Int32)), .val (.long qk), .second, .val (.int (0 : Int32)), .unset, .unset, .unset, .unset] [(.int (-1 : Int32))])) _
    refine XS.istore X0.here hx rfl (hb hby d7_6) rfl (l' := #[.val (.ref oe), .val (.int (0 : Int32)), .val (.int (0 : Int32)), .val (.long qk), .second, .val (.int (0 : Int32)), .val (.int (-1 : Int32)), .unset, .unset, .unset]) rfl ?_
    show Steps p.tables e below (s₁.setTop (mkF m 8 #[.val (.ref oe), .val (.int (0 : Int32)), .val (.int (0 : Int32)), .val (.long qk), .second, .val (.int (0 : Int32)), .val (.int (-1 : Int32)), .unset, .unset, .unset] [])) _
    refine XS.iload X0.here hx rfl (hb hby d7_8) rfl ?_
    show Steps p.tables e below (s₁.setTop (mkF m 10 #[.val (.ref oe), .val (.int (0 : Int32)), .val (.int (0 : Int32)), .val (.long qk), .second, .val (.int (0 : Int32)), .val (.int (-1 : Int32)), .unset, .unset, .unset] [(.int (0 : Int32))])) _
    refine XS.iload X0.here hx rfl (hb hby d7_10) rfl ?_
    show Steps p.tables e below (s₁.setTop (mkF m 12 #[.val (.ref oe), .val (.int (0 : Int32)), .val (.int (0 : Int32)), .val (.long qk), .second, .val (.int (0 : Int32)), .val (.int (-1 : Int32)), .unset, .unset, .unset] [(.int (-1 : Int32)), (.int (0 : Int32))])) _
    refine XS.icmpYes X0.here hx rfl (pc0 := 12) (pc' := 68) rfl (hb hby d7_12) rfl (own_tlt (a := (-1 : Int32)) (b := (0 : Int32)) (by decide) (by decide) hc12_1).2.2.1 (by decide) (by decide) ?_
    show Steps p.tables e below (s₁.setTop (mkF m 68 #[.val (.ref oe), .val (.int (0 : Int32)), .val (.int (0 : Int32)), .val (.long qk), .second, .val (.int (0 : Int32)), .val (.int (-1 : Int32)), .unset, .unset, .unset] [])) _
    refine XS.iload X0.here hx rfl (hb hby d7_68) rfl ?_
    show Steps p.tables e below (s₁.setTop (mkF m 70 #[.val (.ref oe), .val (.int (0 : Int32)), .val (.int (0 : Int32)), .val (.long qk), .second, .val (.int (0 : Int32)), .val (.int (-1 : Int32)), .unset, .unset, .unset] [(.int (0 : Int32))])) _
    refine XS.iconst X0.here hx rfl (hb hby d7_70) ?_
    show Steps p.tables e below (s₁.setTop (mkF m 71 #[.val (.ref oe), .val (.int (0 : Int32)), .val (.int (0 : Int32)), .val (.long qk), .second, .val (.int (0 : Int32)), .val (.int (-1 : Int32)), .unset, .unset, .unset] [(.int (1 : Int32)), (.int (0 : Int32))])) _
    refine XS.iadd X0.here hx rfl (hb hby d7_71) rfl ?_
    show Steps p.tables e below (s₁.setTop (mkF m 72 #[.val (.ref oe), .val (.int (0 : Int32)), .val (.int (0 : Int32)), .val (.long qk), .second, .val (.int (0 : Int32)), .val (.int (-1 : Int32)), .unset, .unset, .unset] [(.int (1 : Int32))])) _
    refine XS.ineg X0.here hx rfl (hb hby d7_72) rfl ?_
    show Steps p.tables e below (s₁.setTop (mkF m 73 #[.val (.ref oe), .val (.int (0 : Int32)), .val (.int (0 : Int32)), .val (.long qk), .second, .val (.int (0 : Int32)), .val (.int (-1 : Int32)), .unset, .unset, .unset] [(.int (-1 : Int32))])) _
    exact retI X0 hx Bd.returns (hb hby d7_73) hr
  · show Q_bz0 Z oe qk kE h0 n0 _ s₁.heap _
    rw [e0]
    exact ⟨_, rfl, rfl, N0, rfl⟩
theorem d5_0 : decode jdk_65_method_55_code 0 = .ok (.aload_n 0, 1) := by decide +kernel
theorem d5_1 : decode jdk_65_method_55_code 1 = .ok (.arraylength, 1) := by decide +kernel
theorem d5_2 : decode jdk_65_method_55_code 2 = .ok (.iload_n 1, 1) := by decide +kernel
theorem d5_3 : decode jdk_65_method_55_code 3 = .ok (.iload_n 2, 1) := by decide +kernel
theorem d5_4 : decode jdk_65_method_55_code 4 = .ok (.invokestatic 13, 3) := by decide +kernel
theorem d5_7 : decode jdk_65_method_55_code 7 = .ok (.aload_n 0, 1) := by decide +kernel
theorem d5_8 : decode jdk_65_method_55_code 8 = .ok (.iload_n 1, 1) := by decide +kernel
theorem d5_9 : decode jdk_65_method_55_code 9 = .ok (.iload_n 2, 1) := by decide +kernel
theorem d5_10 : decode jdk_65_method_55_code 10 = .ok (.lload_n 3, 1) := by decide +kernel
theorem d5_11 : decode jdk_65_method_55_code 11 = .ok (.invokestatic 205, 3) := by decide +kernel
theorem d5_14 : decode jdk_65_method_55_code 14 = .ok (.ireturn, 1) := by decide +kernel
theorem ef_rm_bs0 (m : MethodId) (x0 : Addr) (x3 : Int64) : entryFrame m #[(.ref x0), (.int (0 : Int32)), (.int (0 : Int32)), (.long x3)] 5 = mkF m 0 #[.val (.ref x0), .val (.int (0 : Int32)), .val (.int (0 : Int32)), .val (.long x3), .second] [] := by first | (simp [entryFrame, mkF, argsToLocals, Value.category]; done) | rfl
theorem pd_0 : parseMethodDescriptor "(III)V" = some ⟨[.int, .int, .int], none⟩ := by decide +kernel
theorem pd_1 : parseMethodDescriptor "([JIIJ)I" = some ⟨[(.array .long), .int, .int, .long], some .int⟩ := by decide +kernel
def Q_bs0 (Z : State) (oe : Addr) (qk : Int64) (kE : ClassId) (h0 : Heap) (n0 : Nat) (v : Option Value) (h : Heap) (L : List Loc) : Prop := ∃ z : Int32, v = some (.int z) ∧ (z = (-1 : Int32)) ∧ Fr n0 L ∧ h = h0
set_option maxRecDepth 65536 in
set_option maxHeartbeats 40000000 in
theorem rm_bs0 (l : Launch) (Z : State) (a0 : Array Value) (hw : ∀ d ∈ tables_1, d.before a0 Z = true) (ws : List Jvm.Cond) (oe : Addr) (qk : Int64) (kE : ClassId) (h0 : Heap) (n0 : Nat) (Z0 : n0 ≤ h0.size) (Ve : Arv Z h0 oe kE .long (16 : Int32) [(.long (0 : Int64)), (.long (0 : Int64)), (.long (0 : Int64)), (.long (0 : Int64))] (.long (0 : Int64))) :
    MetFree l (⟨"java/util/Arrays", "binarySearch", "([JIIJ)I"⟩ : MethodName) (head1 (Jvm.Cond.code (⟨"java/util/Arrays", "binarySearch", "([JIIJ)I"⟩ : MethodName) jdk_65_method_55_code 5 (some .int) :: ws) ({ frames := 1, cells := 0, slots := 0, locals := 21 } : Room)) (fun a U => a = #[(.ref oe), (.int (0 : Int32)), (.int (0 : Int32)), (.long qk)] ∧ Z.Warmed39 U.vm ∧ U.heap = h0) (fun _ _ _ _ _ => True) (fun _ U o U' => ∃ v L, o = .returned v ∧ Q_bs0 Z oe qk kE h0 n0 v U'.heap L ∧ FrameEnd U o U' L ({ frames := 1, cells := 0, slots := 0, locals := 21 } : Room).cells ({ frames := 1, cells := 0, slots := 0, locals := 21 } : Room).slots) := by
  refine MetFree.of_bodySF (plainFor_of_name pn_0) hisR ?_
  intro p e s m args below meth c s₁ Bd hml0 hP hK
  obtain ⟨rfl, hZ, hh⟩ := hP
  have hx := Bd.exec
  have hby := Bd.bytes
  have hml : c.maxLocals = 5 := hml0
  have hown : s.vm.findClass "java/util/Arrays" = some m.cls := findClass_of_methodNamed Bd.named
  have hnm := (name_of_methodNamed Bd.named Bd.method).1
  have X0 : Stand p l e ({ frames := 1, cells := 0, slots := 0, locals := 21 } : Room) s m #[(.ref oe), (.int (0 : Int32)), (.int (0 : Int32)), (.long qk)] below meth c s₁ [] 0 0 := Stand.of_body Bd
  have e0 : s₁.heap = h0 := by rw [← hh, Bd.state]; rfl
  have N0 := Fr.nil n0
  have pre0 : ∀ t, Steps p.tables e below (s₁.setTop (mkF m 0 #[.val (.ref oe), .val (.int (0 : Int32)), .val (.int (0 : Int32)), .val (.long qk), .second] [])) t → Steps p.tables e below (s₁.setTop (entryFrame m #[(.ref oe), (.int (0 : Int32)), (.int (0 : Int32)), (.long qk)] 5)) t := fun t k => castTop (ef_rm_bs0 m oe qk) k
  obtain ⟨cl1, Ar1, q1, S1, M1, H1, G1⟩ := id Ve
  obtain ⟨_, _, ⟨T2, L2, k2, n2⟩, -, X2, ⟨Lc2, hQ2, l2, y2, z2⟩, st2⟩ := Jvm.LawKit.callS X0 hx (y := (⟨"java/util/Arrays", "rangeCheck", "(III)V"⟩ : MethodName)) hown (mvT hZ (hw _ (List.mem_of_getElem? (i := 30) rfl))) (mvT hZ (hw _ (List.mem_of_getElem? (i := 31) rfl))) (mvT hZ (hw _ (List.mem_of_getElem? (i := 28) rfl))) (mvT hZ (hw _ (List.mem_of_getElem? (i := 32) rfl))) (by decide) (backOf (W := 0) (rm6 l Z a0 hw [] (16 : Int32) (0 : Int32) (0 : Int32) h0 n0 Z0 (by decide) (by decide) (by decide)) hZ (hw _ (List.mem_of_getElem? (i := 32) rfl)) (hw _ (List.mem_of_getElem? (i := 28) rfl)) (by decide) (by decide)) (g := (mkF m 4 #[.val (.ref oe), .val (.int (0 : Int32)), .val (.int (0 : Int32)), .val (.long qk), .second] [(.int (0 : Int32)), (.int (0 : Int32)), (.int (16 : Int32))])) rfl (by rw [hml]; rfl) (argsL := [(.int (16 : Int32)), (.int (0 : Int32)), (.int (0 : Int32))]) (rest := []) (lenOf pd_0 rfl) rfl (by show 2 * 0 + _ ≤ _; exact Nat.le_of_eq rfl) (hb hby d5_4) (fun _ _ => ⟨rfl, e0, (by decide : 0 + 0 ≤ _), (by decide : 0 + 0 ≤ _)⟩)
  dsimp only [Pt.U, Pt.locs, Pt.cells, Pt.slots] at X2 l2 y2 z2 st2 hQ2
  subst l2 y2 z2
  obtain ⟨rfl, N2q, e2⟩ := hQ2
  have N2 := Fr.app N0 N2q
  obtain ⟨_, _, ⟨T3, L3, k3, n3⟩, -, X3, ⟨Lc3, hQ3, l3, y3, z3⟩, st3⟩ := Jvm.LawKit.callS X2 hx (y := (⟨"java/util/Arrays", "binarySearch0", "([JIIJ)I"⟩ : MethodName)) hown (mvT hZ (hw _ (List.mem_of_getElem? (i := 33) rfl))) (mvT hZ (hw _ (List.mem_of_getElem? (i := 34) rfl))) (mvT hZ (hw _ (List.mem_of_getElem? (i := 28) rfl))) (mvT hZ (hw _ (List.mem_of_getElem? (i := 35) rfl))) (by decide) (backOf (W := 0) (rm_bz0 l Z a0 hw [] oe qk kE h0 n0 Z0 Ve) hZ (hw _ (List.mem_of_getElem? (i := 35) rfl)) (hw _ (List.mem_of_getElem? (i := 28) rfl)) (by decide) (by decide)) (g := (mkF m 11 #[.val (.ref oe), .val (.int (0 : Int32)), .val (.int (0 : Int32)), .val (.long qk), .second] [(.long qk), (.int (0 : Int32)), (.int (0 : Int32)), (.ref oe)])) rfl (by rw [hml]; rfl) (argsL := [(.ref oe), (.int (0 : Int32)), (.int (0 : Int32)), (.long qk)]) (rest := []) (lenOf pd_1 rfl) rfl (by show 2 * 0 + _ ≤ _; exact Nat.le_of_eq rfl) (hb hby d5_11) (fun _ _ => ⟨rfl, e2, (by decide : 0 + 0 ≤ _), (by decide : 0 + 0 ≤ _)⟩)
  dsimp only [Pt.U, Pt.locs, Pt.cells, Pt.slots] at X3 l3 y3 z3 st3 hQ3
  subst l3 y3 z3
  obtain ⟨rb, rfl, hrb, N3q, e3⟩ := hQ3
  have N3 := Fr.app N2 N3q
  obtain ⟨fs, hr, hrun, hended, hW, hsame⟩ := X3.leave (v := some (.int rb)) (fun h => by rw [Bd.returns] at h; cases h)
  refine ⟨_, _, pre0 _ ?_, hrun, hended, _, _, rfl, ?_, ⟨_, rfl⟩, hW, hsame.mono (by decide) (by decide)⟩
  · show Steps p.tables e below (s₁.setTop (mkF m 0 #[.val (.ref oe), .val (.int (0 : Int32)), .val (.int (0 : Int32)), .val (.long qk), .second] [])) _
    refine XS.aloadN X0.here hx rfl (hb hby d5_0) rfl rfl ?_
    show Steps p.tables e below (s₁.setTop (mkF m 1 #[.val (.ref oe), .val (.int (0 : Int32)), .val (.int (0 : Int32)), .val (.long qk), .second] [(.ref oe)])) _
    refine X0.arraylength hx (by rw [e0]; exact Ar1.1) (State.isArrayOf_alike hZ.alike Ar1.2.1) (g := (mkF m 1 #[.val (.ref oe), .val (.int (0 : Int32)), .val (.int (0 : Int32)), .val (.long qk), .second] [(.ref oe)])) rfl rfl (hb hby d5_1) _ ?_
    rw [len_of S1 M1]
    show Steps p.tables e below (s₁.setTop (mkF m 2 #[.val (.ref oe), .val (.int (0 : Int32)), .val (.int (0 : Int32)), .val (.long qk), .second] [(.int (16 : Int32))])) _
    refine XS.iloadN X0.here hx rfl (hb hby d5_2) rfl ?_
    show Steps p.tables e below (s₁.setTop (mkF m 3 #[.val (.ref oe), .val (.int (0 : Int32)), .val (.int (0 : Int32)), .val (.long qk), .second] [(.int (0 : Int32)), (.int (16 : Int32))])) _
    refine XS.iloadN X0.here hx rfl (hb hby d5_3) rfl ?_
    show Steps p.tables e below (s₁.setTop (mkF m 4 #[.val (.ref oe), .val (.int (0 : Int32)), .val (.int (0 : Int32)), .val (.long qk), .second] [(.int (0 : Int32)), (.int (0 : Int32)), (.int (16 : Int32))])) _
    refine st2 _ ?_
    show Steps p.tables e below (T2.setTop (mkF m 7 #[.val (.ref oe), .val (.int (0 : Int32)), .val (.int (0 : Int32)), .val (.long qk), .second] [])) _
    refine XS.aloadN X2.here hx rfl (hb hby d5_7) rfl rfl ?_
    show Steps p.tables e below (T2.setTop (mkF m 8 #[.val (.ref oe), .val (.int (0 : Int32)), .val (.int (0 : Int32)), .val (.long qk), .second] [(.ref oe)])) _
    refine XS.iloadN X2.here hx rfl (hb hby d5_8) rfl ?_
    show Steps p.tables e below (T2.setTop (mkF m 9 #[.val (.ref oe), .val (.int (0 : Int32)), .val (.int (0 : Int32)), .val (.long qk), .second] [(.int (0 : Int32)), (.ref oe)])) _
    refine XS.iloadN X2.here hx rfl (hb hby d5_9) rfl ?_
    show Steps p.tables e below (T2.setTop (mkF m 10 #[.val (.ref oe), .val (.int (0 : Int32)), .val (.int (0 : Int32)), .val (.long qk), .second] [(.int (0 : Int32)), (.int (0 : Int32)), (.ref oe)])) _
    refine XS.lloadN X2.here hx rfl (hb hby d5_10) rfl ?_
    show Steps p.tables e below (T2.setTop (mkF m 11 #[.val (.ref oe), .val (.int (0 : Int32)), .val (.int (0 : Int32)), .val (.long qk), .second] [(.long qk), (.int (0 : Int32)), (.int (0 : Int32)), (.ref oe)])) _
    refine st3 _ ?_
    show Steps p.tables e below (T3.setTop (mkF m 14 #[.val (.ref oe), .val (.int (0 : Int32)), .val (.int (0 : Int32)), .val (.long qk), .second] [(.int rb)])) _
    exact retI X3 hx Bd.returns (hb hby d5_14) hr
  · show Q_bs0 Z oe qk kE h0 n0 _ T3.heap _
    rw [e3]
    exact ⟨_, rfl, hrb, N3, rfl⟩
theorem d7_15 : decode jdk_65_method_56_code 15 = .ok (.iload 5, 2) := by decide +kernel
theorem d7_17 : decode jdk_65_method_56_code 17 = .ok (.iload 6, 2) := by decide +kernel
theorem d7_19 : decode jdk_65_method_56_code 19 = .ok (.iadd, 1) := by decide +kernel
theorem d7_20 : decode jdk_65_method_56_code 20 = .ok (.iconst 1, 1) := by decide +kernel
theorem d7_21 : decode jdk_65_method_56_code 21 = .ok (.iushr, 1) := by decide +kernel
theorem d7_22 : decode jdk_65_method_56_code 22 = .ok (.istore 7, 2) := by decide +kernel
theorem d7_24 : decode jdk_65_method_56_code 24 = .ok (.aload_n 0, 1) := by decide +kernel
theorem d7_25 : decode jdk_65_method_56_code 25 = .ok (.iload 7, 2) := by decide +kernel
theorem d7_27 : decode jdk_65_method_56_code 27 = .ok (.laload, 1) := by decide +kernel
theorem d7_28 : decode jdk_65_method_56_code 28 = .ok (.lstore 8, 2) := by decide +kernel
theorem d7_30 : decode jdk_65_method_56_code 30 = .ok (.lload 8, 2) := by decide +kernel
theorem d7_32 : decode jdk_65_method_56_code 32 = .ok (.lload_n 3, 1) := by decide +kernel
theorem d7_33 : decode jdk_65_method_56_code 33 = .ok (.lcmp, 1) := by decide +kernel
theorem d7_34 : decode jdk_65_method_56_code 34 = .ok (.ifCond .ge 12, 3) := by decide +kernel
theorem d7_37 : decode jdk_65_method_56_code 37 = .ok (.iload 7, 2) := by decide +kernel
theorem d7_39 : decode jdk_65_method_56_code 39 = .ok (.iconst 1, 1) := by decide +kernel
theorem d7_40 : decode jdk_65_method_56_code 40 = .ok (.iadd, 1) := by decide +kernel
theorem d7_41 : decode jdk_65_method_56_code 41 = .ok (.istore 5, 2) := by decide +kernel
theorem d7_43 : decode jdk_65_method_56_code 43 = .ok (.goto 22, 3) := by decide +kernel
theorem d7_46 : decode jdk_65_method_56_code 46 = .ok (.lload 8, 2) := by decide +kernel
theorem d7_48 : decode jdk_65_method_56_code 48 = .ok (.lload_n 3, 1) := by decide +kernel
theorem d7_49 : decode jdk_65_method_56_code 49 = .ok (.lcmp, 1) := by decide +kernel
theorem d7_50 : decode jdk_65_method_56_code 50 = .ok (.ifCond .le 12, 3) := by decide +kernel
theorem d7_53 : decode jdk_65_method_56_code 53 = .ok (.iload 7, 2) := by decide +kernel
theorem d7_55 : decode jdk_65_method_56_code 55 = .ok (.iconst 1, 1) := by decide +kernel
theorem d7_56 : decode jdk_65_method_56_code 56 = .ok (.isub, 1) := by decide +kernel
theorem d7_57 : decode jdk_65_method_56_code 57 = .ok (.istore 6, 2) := by decide +kernel
theorem d7_59 : decode jdk_65_method_56_code 59 = .ok (.goto 6, 3) := by decide +kernel
theorem d7_62 : decode jdk_65_method_56_code 62 = .ok (.iload 7, 2) := by decide +kernel
theorem d7_64 : decode jdk_65_method_56_code 64 = .ok (.ireturn, 1) := by decide +kernel
theorem d7_65 : decode jdk_65_method_56_code 65 = .ok (.goto (-57), 3) := by decide +kernel
theorem ef_rm_bz1 (m : MethodId) (x0 : Addr) (x3 : Int64) : entryFrame m #[(.ref x0), (.int (0 : Int32)), (.int (1 : Int32)), (.long x3)] 10 = mkF m 0 #[.val (.ref x0), .val (.int (0 : Int32)), .val (.int (1 : Int32)), .val (.long x3), .second, .unset, .unset, .unset, .unset, .unset] [] := by first | (simp [entryFrame, mkF, argsToLocals, Value.category]; done) | rfl
def Q_bz1 (Z : State) (oe : Addr) (qk : Int64) (kE : ClassId) (x0 : Int64) (h0 : Heap) (n0 : Nat) (v : Option Value) (h : Heap) (L : List Loc) : Prop := ∃ z : Int32, v = some (.int z) ∧ ((z = (0 : Int32) ∧ x0.toInt = qk.toInt) ∨ (z = (-1 : Int32) ∧ qk.toInt < x0.toInt) ∨ (z = (-2 : Int32) ∧ x0.toInt < qk.toInt)) ∧ Fr n0 L ∧ h = h0
set_option maxRecDepth 65536 in
set_option maxHeartbeats 40000000 in
theorem rm_bz1 (l : Launch) (Z : State) (a0 : Array Value) (hw : ∀ d ∈ tables_1, d.before a0 Z = true) (ws : List Jvm.Cond) (oe : Addr) (qk : Int64) (kE : ClassId) (x0 : Int64) (h0 : Heap) (n0 : Nat) (Z0 : n0 ≤ h0.size) (Ve : Arv Z h0 oe kE .long (16 : Int32) [(.long x0), (.long (0 : Int64)), (.long (0 : Int64)), (.long (0 : Int64))] (.long (0 : Int64))) :
    MetFree l (⟨"java/util/Arrays", "binarySearch0", "([JIIJ)I"⟩ : MethodName) (head1 (Jvm.Cond.code (⟨"java/util/Arrays", "binarySearch0", "([JIIJ)I"⟩ : MethodName) jdk_65_method_56_code 10 (some .int) :: ws) ({ frames := 0, cells := 0, slots := 0, locals := 0 } : Room)) (fun a U => a = #[(.ref oe), (.int (0 : Int32)), (.int (1 : Int32)), (.long qk)] ∧ Z.Warmed39 U.vm ∧ U.heap = h0) (fun _ _ _ _ _ => True) (fun _ U o U' => ∃ v L, o = .returned v ∧ Q_bz1 Z oe qk kE x0 h0 n0 v U'.heap L ∧ FrameEnd U o U' L ({ frames := 0, cells := 0, slots := 0, locals := 0 } : Room).cells ({ frames := 0, cells := 0, slots := 0, locals := 0 } : Room).slots) := by
  refine MetFree.of_bodySF (plainFor_of_name pn_0) hisR ?_
  intro p e s m args below meth c s₁ Bd hml0 hP hK
  obtain ⟨rfl, hZ, hh⟩ := hP
  have hx := Bd.exec
  have hby := Bd.bytes
  have hml : c.maxLocals = 10 := hml0
  have hown : s.vm.findClass "java/util/Arrays" = some m.cls := findClass_of_methodNamed Bd.named
  have hnm := (name_of_methodNamed Bd.named Bd.method).1
  have X0 : Stand p l e ({ frames := 0, cells := 0, slots := 0, locals := 0 } : Room) s m #[(.ref oe), (.int (0 : Int32)), (.int (1 : Int32)), (.long qk)] below meth c s₁ [] 0 0 := Stand.of_body Bd
  have e0 : s₁.heap = h0 := by rw [← hh, Bd.state]; rfl
  have N0 := Fr.nil n0
  have pre0 : ∀ t, Steps p.tables e below (s₁.setTop (mkF m 0 #[.val (.ref oe), .val (.int (0 : Int32)), .val (.int (1 : Int32)), .val (.long qk), .second, .unset, .unset, .unset, .unset, .unset] [])) t → Steps p.tables e below (s₁.setTop (entryFrame m #[(.ref oe), (.int (0 : Int32)), (.int (1 : Int32)), (.long qk)] 10)) t := fun t k => castTop (ef_rm_bz1 m oe qk) k
  have hc12_1 : ¬ ((0 : Int) < (0 : Int)) := by decide
  obtain ⟨cl2, Ar2, q2, S2, M2, H2, G2⟩ := id Ve
  have hin2 : ¬ ((0 : Int32) < 0 ∨ cl2.slots.size ≤ ((0 : Int32)).toNatClampNeg) := inb_of S2 ⟨by decide, by decide⟩
  have hat2 : cl2.slots[((0 : Int32)).toNatClampNeg]? = some (.long x0) := Has.at H2 hin2 rfl
  have pre4 : ∀ t, Steps p.tables e below (s₁.setTop (mkF m 34 #[.val (.ref oe), .val (.int (0 : Int32)), .val (.int (1 : Int32)), .val (.long qk), .second, .val (.int (0 : Int32)), .val (.int (0 : Int32)), .val (.int (0 : Int32)), .val (.long x0), .second] [(.int (lcmpW x0 qk))])) t → Steps p.tables e below (s₁.setTop (entryFrame m #[(.ref oe), (.int (0 : Int32)), (.int (1 : Int32)), (.long qk)] 10)) t := fun t kt => by
    refine pre0 _ ?_
    show Steps p.tables e below (s₁.setTop (mkF m 0 #[.val (.ref oe), .val (.int (0 : Int32)), .val (.int (1 : Int32)), .val (.long qk), .second, .unset, .unset, .unset, .unset, .unset] [])) _
    refine XS.iloadN X0.here hx rfl (hb hby d7_0) rfl ?_
    show Steps p.tables e below (s₁.setTop (mkF m 1 #[.val (.ref oe), .val (.int (0 : Int32)), .val (.int (1 : Int32)), .val (.long qk), .second, .unset, .unset, .unset, .unset, .unset] [(.int (0 : Int32))])) _
    refine XS.istore X0.here hx rfl (hb hby d7_1) rfl (l' := #[.val (.ref oe), .val (.int (0 : Int32)), .val (.int (1 : Int32)), .val (.long qk), .second, .val (.int (0 : Int32)), .unset, .unset, .unset, .unset]) rfl ?_
    show Steps p.tables e below (s₁.setTop (mkF m 3 #[.val (.ref oe), .val (.int (0 : Int32)), .val (.int (1 : Int32)), .val (.long qk), .second, .val (.int (0 : Int32)), .unset, .unset, .unset, .unset] [])) _
    refine XS.iloadN X0.here hx rfl (hb hby d7_3) rfl ?_
    show Steps p.tables e below (s₁.setTop (mkF m 4 #[.val (.ref oe), .val (.int (0 : Int32)), .val (.int (1 : Int32)), .val (.long qk), .second, .val (.int (0 : Int32)), .unset, .unset, .unset, .unset] [(.int (1 : Int32))])) _
    refine XS.iconst X0.here hx rfl (hb hby d7_4) ?_
    show Steps p.tables e below (s₁.setTop (mkF m 5 #[.val (.ref oe), .val (.int (0 : Int32)), .val (.int (1 : Int32)), .val (.long qk), .second, .val (.int (0 : Int32)), .unset, .unset, .unset, .unset] [(.int (1 : Int32)), (.int (1 : Int32))])) _
    refine XS.isub X0.here hx rfl (hb hby d7_5) rfl ?_
    show Steps p.tables e below (s₁.setTop (mkF m 6 #[.val (.ref oe), .val (.int (0 : Int32)), .val (.int (1 : Int32)), .val (.long qk), .second, .val (.int (0 : Int32)), .unset, .unset, .unset, .unset] [(.int (0 : Int32))])) _
    refine XS.istore X0.here hx rfl (hb hby d7_6) rfl (l' := #[.val (.ref oe), .val (.int (0 : Int32)), .val (.int (1 : Int32)), .val (.long qk), .second, .val (.int (0 : Int32)), .val (.int (0 : Int32)), .unset, .unset, .unset]) rfl ?_
    show Steps p.tables e below (s₁.setTop (mkF m 8 #[.val (.ref oe), .val (.int (0 : Int32)), .val (.int (1 : Int32)), .val (.long qk), .second, .val (.int (0 : Int32)), .val (.int (0 : Int32)), .unset, .unset, .unset] [])) _
    refine XS.iload X0.here hx rfl (hb hby d7_8) rfl ?_
    show Steps p.tables e below (s₁.setTop (mkF m 10 #[.val (.ref oe), .val (.int (0 : Int32)), .val (.int (1 : Int32)), .val (.long qk), .second, .val (.int (0 : Int32)), .val (.int (0 : Int32)), .unset, .unset, .unset] [(.int (0 : Int32))])) _
    refine XS.iload X0.here hx rfl (hb hby d7_10) rfl ?_
    show Steps p.tables e below (s₁.setTop (mkF m 12 #[.val (.ref oe), .val (.int (0 : Int32)), .val (.int (1 : Int32)), .val (.long qk), .second, .val (.int (0 : Int32)), .val (.int (0 : Int32)), .unset, .unset, .unset] [(.int (0 : Int32)), (.int (0 : Int32))])) _
    refine XS.icmpNo X0.here hx rfl (hb hby d7_12) rfl (own_flt (a := (0 : Int32)) (b := (0 : Int32)) (by decide) (by decide) hc12_1).2.2.1 ?_
    show Steps p.tables e below (s₁.setTop (mkF m 15 #[.val (.ref oe), .val (.int (0 : Int32)), .val (.int (1 : Int32)), .val (.long qk), .second, .val (.int (0 : Int32)), .val (.int (0 : Int32)), .unset, .unset, .unset] [])) _
    refine XS.iload X0.here hx rfl (hb hby d7_15) rfl ?_
    show Steps p.tables e below (s₁.setTop (mkF m 17 #[.val (.ref oe), .val (.int (0 : Int32)), .val (.int (1 : Int32)), .val (.long qk), .second, .val (.int (0 : Int32)), .val (.int (0 : Int32)), .unset, .unset, .unset] [(.int (0 : Int32))])) _
    refine XS.iload X0.here hx rfl (hb hby d7_17) rfl ?_
    show Steps p.tables e below (s₁.setTop (mkF m 19 #[.val (.ref oe), .val (.int (0 : Int32)), .val (.int (1 : Int32)), .val (.long qk), .second, .val (.int (0 : Int32)), .val (.int (0 : Int32)), .unset, .unset, .unset] [(.int (0 : Int32)), (.int (0 : Int32))])) _
    refine XS.iadd X0.here hx rfl (hb hby d7_19) rfl ?_
    show Steps p.tables e below (s₁.setTop (mkF m 20 #[.val (.ref oe), .val (.int (0 : Int32)), .val (.int (1 : Int32)), .val (.long qk), .second, .val (.int (0 : Int32)), .val (.int (0 : Int32)), .unset, .unset, .unset] [(.int (0 : Int32))])) _
    refine XS.iconst X0.here hx rfl (hb hby d7_20) ?_
    show Steps p.tables e below (s₁.setTop (mkF m 21 #[.val (.ref oe), .val (.int (0 : Int32)), .val (.int (1 : Int32)), .val (.long qk), .second, .val (.int (0 : Int32)), .val (.int (0 : Int32)), .unset, .unset, .unset] [(.int (1 : Int32)), (.int (0 : Int32))])) _
    refine XS.iushr X0.here hx rfl (hb hby d7_21) rfl ?_
    show Steps p.tables e below (s₁.setTop (mkF m 22 #[.val (.ref oe), .val (.int (0 : Int32)), .val (.int (1 : Int32)), .val (.long qk), .second, .val (.int (0 : Int32)), .val (.int (0 : Int32)), .unset, .unset, .unset] [(.int (0 : Int32))])) _
    refine XS.istore X0.here hx rfl (hb hby d7_22) rfl (l' := #[.val (.ref oe), .val (.int (0 : Int32)), .val (.int (1 : Int32)), .val (.long qk), .second, .val (.int (0 : Int32)), .val (.int (0 : Int32)), .val (.int (0 : Int32)), .unset, .unset]) rfl ?_
    show Steps p.tables e below (s₁.setTop (mkF m 24 #[.val (.ref oe), .val (.int (0 : Int32)), .val (.int (1 : Int32)), .val (.long qk), .second, .val (.int (0 : Int32)), .val (.int (0 : Int32)), .val (.int (0 : Int32)), .unset, .unset] [])) _
    refine XS.aloadN X0.here hx rfl (hb hby d7_24) rfl rfl ?_
    show Steps p.tables e below (s₁.setTop (mkF m 25 #[.val (.ref oe), .val (.int (0 : Int32)), .val (.int (1 : Int32)), .val (.long qk), .second, .val (.int (0 : Int32)), .val (.int (0 : Int32)), .val (.int (0 : Int32)), .unset, .unset] [(.ref oe)])) _
    refine XS.iload X0.here hx rfl (hb hby d7_25) rfl ?_
    show Steps p.tables e below (s₁.setTop (mkF m 27 #[.val (.ref oe), .val (.int (0 : Int32)), .val (.int (1 : Int32)), .val (.long qk), .second, .val (.int (0 : Int32)), .val (.int (0 : Int32)), .val (.int (0 : Int32)), .unset, .unset] [(.int (0 : Int32)), (.ref oe)])) _
    refine X0.laload hx (j := (0 : Int32)) (v := (.long x0)) (by rw [e0]; exact Ar2.1) (State.isArrayOf_alike hZ.alike Ar2.2.1) Ar2.2.2 hin2 hat2 (g := (mkF m 27 #[.val (.ref oe), .val (.int (0 : Int32)), .val (.int (1 : Int32)), .val (.long qk), .second, .val (.int (0 : Int32)), .val (.int (0 : Int32)), .val (.int (0 : Int32)), .unset, .unset] [(.int (0 : Int32)), (.ref oe)])) rfl rfl (hb hby d7_27) _ ?_
    show Steps p.tables e below (s₁.setTop (mkF m 28 #[.val (.ref oe), .val (.int (0 : Int32)), .val (.int (1 : Int32)), .val (.long qk), .second, .val (.int (0 : Int32)), .val (.int (0 : Int32)), .val (.int (0 : Int32)), .unset, .unset] [(.long x0)])) _
    refine XS.lstore X0.here hx rfl (hb hby d7_28) rfl (l' := #[.val (.ref oe), .val (.int (0 : Int32)), .val (.int (1 : Int32)), .val (.long qk), .second, .val (.int (0 : Int32)), .val (.int (0 : Int32)), .val (.int (0 : Int32)), .val (.long x0), .second]) rfl ?_
    show Steps p.tables e below (s₁.setTop (mkF m 30 #[.val (.ref oe), .val (.int (0 : Int32)), .val (.int (1 : Int32)), .val (.long qk), .second, .val (.int (0 : Int32)), .val (.int (0 : Int32)), .val (.int (0 : Int32)), .val (.long x0), .second] [])) _
    refine XS.lload X0.here hx rfl (hb hby d7_30) rfl ?_
    show Steps p.tables e below (s₁.setTop (mkF m 32 #[.val (.ref oe), .val (.int (0 : Int32)), .val (.int (1 : Int32)), .val (.long qk), .second, .val (.int (0 : Int32)), .val (.int (0 : Int32)), .val (.int (0 : Int32)), .val (.long x0), .second] [(.long x0)])) _
    refine XS.lloadN X0.here hx rfl (hb hby d7_32) rfl ?_
    show Steps p.tables e below (s₁.setTop (mkF m 33 #[.val (.ref oe), .val (.int (0 : Int32)), .val (.int (1 : Int32)), .val (.long qk), .second, .val (.int (0 : Int32)), .val (.int (0 : Int32)), .val (.int (0 : Int32)), .val (.long x0), .second] [(.long qk), (.long x0)])) _
    refine XS.lcmp X0.here hx rfl (hb hby d7_33) rfl ?_
    exact kt
  by_cases hc34_3 : x0.toInt < qk.toInt
  · have hc12_5 : (0 : Int) < (1 : Int) := by decide
    obtain ⟨fs, hr, hrun, hended, hW, hsame⟩ := X0.leave (v := some (.int (-2 : Int32))) (fun h => by rw [Bd.returns] at h; cases h)
    refine ⟨_, _, pre4 _ ?_, hrun, hended, _, _, rfl, ?_, ⟨_, rfl⟩, hW, hsame.mono (by decide) (by decide)⟩
    · show Steps p.tables e below (s₁.setTop (mkF m 34 #[.val (.ref oe), .val (.int (0 : Int32)), .val (.int (1 : Int32)), .val (.long qk), .second, .val (.int (0 : Int32)), .val (.int (0 : Int32)), .val (.int (0 : Int32)), .val (.long x0), .second] [(.int (lcmpW x0 qk))])) _
      refine XS.ifNo X0.here hx rfl (hb hby d7_34) rfl (own_if (own_tltL (x := x0) (y := qk) rfl rfl hc34_3).2) ?_
      show Steps p.tables e below (s₁.setTop (mkF m 37 #[.val (.ref oe), .val (.int (0 : Int32)), .val (.int (1 : Int32)), .val (.long qk), .second, .val (.int (0 : Int32)), .val (.int (0 : Int32)), .val (.int (0 : Int32)), .val (.long x0), .second] [])) _
      refine XS.iload X0.here hx rfl (hb hby d7_37) rfl ?_
      show Steps p.tables e below (s₁.setTop (mkF m 39 #[.val (.ref oe), .val (.int (0 : Int32)), .val (.int (1 : Int32)), .val (.long qk), .second, .val (.int (0 : Int32)), .val (.int (0 : Int32)), .val (.int (0 : Int32)), .val (.long x0), .second] [(.int (0 : Int32))])) _
      refine XS.iconst X0.here hx rfl (hb hby d7_39) ?_
      show Steps p.tables e below (s₁.setTop (mkF m 40 #[.val (.ref oe), .val (.int (0 : Int32)), .val (.int (1 : Int32)), .val (.long qk), .second, .val (.int (0 : Int32)), .val (.int (0 : Int32)), .val (.int (0 : Int32)), .val (.long x0), .second] [(.int (1 : Int32)), (.int (0 : Int32))])) _
      refine XS.iadd X0.here hx rfl (hb hby d7_40) rfl ?_
      show Steps p.tables e below (s₁.setTop (mkF m 41 #[.val (.ref oe), .val (.int (0 : Int32)), .val (.int (1 : Int32)), .val (.long qk), .second, .val (.int (0 : Int32)), .val (.int (0 : Int32)), .val (.int (0 : Int32)), .val (.long x0), .second] [(.int (1 : Int32))])) _
      refine XS.istore X0.here hx rfl (hb hby d7_41) rfl (l' := #[.val (.ref oe), .val (.int (0 : Int32)), .val (.int (1 : Int32)), .val (.long qk), .second, .val (.int (1 : Int32)), .val (.int (0 : Int32)), .val (.int (0 : Int32)), .val (.long x0), .second]) rfl ?_
      show Steps p.tables e below (s₁.setTop (mkF m 43 #[.val (.ref oe), .val (.int (0 : Int32)), .val (.int (1 : Int32)), .val (.long qk), .second, .val (.int (1 : Int32)), .val (.int (0 : Int32)), .val (.int (0 : Int32)), .val (.long x0), .second] [])) _
      refine XS.goto X0.here hx rfl (pc0 := 43) (pc' := 65) rfl (hb hby d7_43) (by decide) (by decide) ?_
      show Steps p.tables e below (s₁.setTop (mkF m 65 #[.val (.ref oe), .val (.int (0 : Int32)), .val (.int (1 : Int32)), .val (.long qk), .second, .val (.int (1 : Int32)), .val (.int (0 : Int32)), .val (.int (0 : Int32)), .val (.long x0), .second] [])) _
      refine XS.goto X0.here hx rfl (pc0 := 65) (pc' := 8) rfl (hb hby d7_65) (by decide) (by decide) ?_
      show Steps p.tables e below (s₁.setTop (mkF m 8 #[.val (.ref oe), .val (.int (0 : Int32)), .val (.int (1 : Int32)), .val (.long qk), .second, .val (.int (1 : Int32)), .val (.int (0 : Int32)), .val (.int (0 : Int32)), .val (.long x0), .second] [])) _
      refine XS.iload X0.here hx rfl (hb hby d7_8) rfl ?_
      show Steps p.tables e below (s₁.setTop (mkF m 10 #[.val (.ref oe), .val (.int (0 : Int32)), .val (.int (1 : Int32)), .val (.long qk), .second, .val (.int (1 : Int32)), .val (.int (0 : Int32)), .val (.int (0 : Int32)), .val (.long x0), .second] [(.int (1 : Int32))])) _
      refine XS.iload X0.here hx rfl (hb hby d7_10) rfl ?_
      show Steps p.tables e below (s₁.setTop (mkF m 12 #[.val (.ref oe), .val (.int (0 : Int32)), .val (.int (1 : Int32)), .val (.long qk), .second, .val (.int (1 : Int32)), .val (.int (0 : Int32)), .val (.int (0 : Int32)), .val (.long x0), .second] [(.int (0 : Int32)), (.int (1 : Int32))])) _
      refine XS.icmpYes X0.here hx rfl (pc0 := 12) (pc' := 68) rfl (hb hby d7_12) rfl (own_tlt (a := (0 : Int32)) (b := (1 : Int32)) (by decide) (by decide) hc12_5).2.2.1 (by decide) (by decide) ?_
      show Steps p.tables e below (s₁.setTop (mkF m 68 #[.val (.ref oe), .val (.int (0 : Int32)), .val (.int (1 : Int32)), .val (.long qk), .second, .val (.int (1 : Int32)), .val (.int (0 : Int32)), .val (.int (0 : Int32)), .val (.long x0), .second] [])) _
      refine XS.iload X0.here hx rfl (hb hby d7_68) rfl ?_
      show Steps p.tables e below (s₁.setTop (mkF m 70 #[.val (.ref oe), .val (.int (0 : Int32)), .val (.int (1 : Int32)), .val (.long qk), .second, .val (.int (1 : Int32)), .val (.int (0 : Int32)), .val (.int (0 : Int32)), .val (.long x0), .second] [(.int (1 : Int32))])) _
      refine XS.iconst X0.here hx rfl (hb hby d7_70) ?_
      show Steps p.tables e below (s₁.setTop (mkF m 71 #[.val (.ref oe), .val (.int (0 : Int32)), .val (.int (1 : Int32)), .val (.long qk), .second, .val (.int (1 : Int32)), .val (.int (0 : Int32)), .val (.int (0 : Int32)), .val (.long x0), .second] [(.int (1 : Int32)), (.int (1 : Int32))])) _
      refine XS.iadd X0.here hx rfl (hb hby d7_71) rfl ?_
      show Steps p.tables e below (s₁.setTop (mkF m 72 #[.val (.ref oe), .val (.int (0 : Int32)), .val (.int (1 : Int32)), .val (.long qk), .second, .val (.int (1 : Int32)), .val (.int (0 : Int32)), .val (.int (0 : Int32)), .val (.long x0), .second] [(.int (2 : Int32))])) _
      refine XS.ineg X0.here hx rfl (hb hby d7_72) rfl ?_
      show Steps p.tables e below (s₁.setTop (mkF m 73 #[.val (.ref oe), .val (.int (0 : Int32)), .val (.int (1 : Int32)), .val (.long qk), .second, .val (.int (1 : Int32)), .val (.int (0 : Int32)), .val (.int (0 : Int32)), .val (.long x0), .second] [(.int (-2 : Int32))])) _
      exact retI X0 hx Bd.returns (hb hby d7_73) hr
    · show Q_bz1 Z oe qk kE x0 h0 n0 _ s₁.heap _
      rw [e0]
      exact ⟨_, rfl, Or.inr (Or.inr (⟨rfl, by omega⟩)), N0, rfl⟩
  · have pre7 : ∀ t, Steps p.tables e below (s₁.setTop (mkF m 50 #[.val (.ref oe), .val (.int (0 : Int32)), .val (.int (1 : Int32)), .val (.long qk), .second, .val (.int (0 : Int32)), .val (.int (0 : Int32)), .val (.int (0 : Int32)), .val (.long x0), .second] [(.int (lcmpW x0 qk))])) t → Steps p.tables e below (s₁.setTop (entryFrame m #[(.ref oe), (.int (0 : Int32)), (.int (1 : Int32)), (.long qk)] 10)) t := fun t kt => by
      refine pre4 _ ?_
      show Steps p.tables e below (s₁.setTop (mkF m 34 #[.val (.ref oe), .val (.int (0 : Int32)), .val (.int (1 : Int32)), .val (.long qk), .second, .val (.int (0 : Int32)), .val (.int (0 : Int32)), .val (.int (0 : Int32)), .val (.long x0), .second] [(.int (lcmpW x0 qk))])) _
      refine XS.ifYes X0.here hx rfl (pc0 := 34) (pc' := 46) rfl (hb hby d7_34) rfl (own_if (own_fltL (x := x0) (y := qk) rfl rfl hc34_3).2) (by decide) (by decide) ?_
      show Steps p.tables e below (s₁.setTop (mkF m 46 #[.val (.ref oe), .val (.int (0 : Int32)), .val (.int (1 : Int32)), .val (.long qk), .second, .val (.int (0 : Int32)), .val (.int (0 : Int32)), .val (.int (0 : Int32)), .val (.long x0), .second] [])) _
      refine XS.lload X0.here hx rfl (hb hby d7_46) rfl ?_
      show Steps p.tables e below (s₁.setTop (mkF m 48 #[.val (.ref oe), .val (.int (0 : Int32)), .val (.int (1 : Int32)), .val (.long qk), .second, .val (.int (0 : Int32)), .val (.int (0 : Int32)), .val (.int (0 : Int32)), .val (.long x0), .second] [(.long x0)])) _
      refine XS.lloadN X0.here hx rfl (hb hby d7_48) rfl ?_
      show Steps p.tables e below (s₁.setTop (mkF m 49 #[.val (.ref oe), .val (.int (0 : Int32)), .val (.int (1 : Int32)), .val (.long qk), .second, .val (.int (0 : Int32)), .val (.int (0 : Int32)), .val (.int (0 : Int32)), .val (.long x0), .second] [(.long qk), (.long x0)])) _
      refine XS.lcmp X0.here hx rfl (hb hby d7_49) rfl ?_
      exact kt
    by_cases hc50_6 : qk.toInt < x0.toInt
    · have hc12_8 : (-1 : Int) < (0 : Int) := by decide
      obtain ⟨fs, hr, hrun, hended, hW, hsame⟩ := X0.leave (v := some (.int (-1 : Int32))) (fun h => by rw [Bd.returns] at h; cases h)
      refine ⟨_, _, pre7 _ ?_, hrun, hended, _, _, rfl, ?_, ⟨_, rfl⟩, hW, hsame.mono (by decide) (by decide)⟩
      · show Steps p.tables e below (s₁.setTop (mkF m 50 #[.val (.ref oe), .val (.int (0 : Int32)), .val (.int (1 : Int32)), .val (.long qk), .second, .val (.int (0 : Int32)), .val (.int (0 : Int32)), .val (.int (0 : Int32)), .val (.long x0), .second] [(.int (lcmpW x0 qk))])) _
        refine XS.ifNo X0.here hx rfl (hb hby d7_50) rfl (own_if (own_tgtL (x := x0) (y := qk) rfl rfl hc50_6).2) ?_
        show Steps p.tables e below (s₁.setTop (mkF m 53 #[.val (.ref oe), .val (.int (0 : Int32)), .val (.int (1 : Int32)), .val (.long qk), .second, .val (.int (0 : Int32)), .val (.int (0 : Int32)), .val (.int (0 : Int32)), .val (.long x0), .second] [])) _
        refine XS.iload X0.here hx rfl (hb hby d7_53) rfl ?_
        show Steps p.tables e below (s₁.setTop (mkF m 55 #[.val (.ref oe), .val (.int (0 : Int32)), .val (.int (1 : Int32)), .val (.long qk), .second, .val (.int (0 : Int32)), .val (.int (0 : Int32)), .val (.int (0 : Int32)), .val (.long x0), .second] [(.int (0 : Int32))])) _
        refine XS.iconst X0.here hx rfl (hb hby d7_55) ?_
        show Steps p.tables e below (s₁.setTop (mkF m 56 #[.val (.ref oe), .val (.int (0 : Int32)), .val (.int (1 : Int32)), .val (.long qk), .second, .val (.int (0 : Int32)), .val (.int (0 : Int32)), .val (.int (0 : Int32)), .val (.long x0), .second] [(.int (1 : Int32)), (.int (0 : Int32))])) _
        refine XS.isub X0.here hx rfl (hb hby d7_56) rfl ?_
        show Steps p.tables e below (s₁.setTop (mkF m 57 #[.val (.ref oe), .val (.int (0 : Int32)), .val (.int (1 : Int32)), .val (.long qk), .second, .val (.int (0 : Int32)), .val (.int (0 : Int32)), .val (.int (0 : Int32)), .val (.long x0), .second] [(.int (-1 : Int32))])) _
        refine XS.istore X0.here hx rfl (hb hby d7_57) rfl (l' := #[.val (.ref oe), .val (.int (0 : Int32)), .val (.int (1 : Int32)), .val (.long qk), .second, .val (.int (0 : Int32)), .val (.int (-1 : Int32)), .val (.int (0 : Int32)), .val (.long x0), .second]) rfl ?_
        show Steps p.tables e below (s₁.setTop (mkF m 59 #[.val (.ref oe), .val (.int (0 : Int32)), .val (.int (1 : Int32)), .val (.long qk), .second, .val (.int (0 : Int32)), .val (.int (-1 : Int32)), .val (.int (0 : Int32)), .val (.long x0), .second] [])) _
        refine XS.goto X0.here hx rfl (pc0 := 59) (pc' := 65) rfl (hb hby d7_59) (by decide) (by decide) ?_
        show Steps p.tables e below (s₁.setTop (mkF m 65 #[.val (.ref oe), .val (.int (0 : Int32)), .val (.int (1 : Int32)), .val (.long qk), .second, .val (.int (0 : Int32)), .val (.int (-1 : Int32)), .val (.int (0 : Int32)), .val (.long x0), .second] [])) _
        refine XS.goto X0.here hx rfl (pc0 := 65) (pc' := 8) rfl (hb hby d7_65) (by decide) (by decide) ?_
        show Steps p.tables e below (s₁.setTop (mkF m 8 #[.val (.ref oe), .val (.int (0 : Int32)), .val (.int (1 : Int32)), .val (.long qk), .second, .val (.int (0 : Int32)), .val (.int (-1 : Int32)), .val (.int (0 : Int32)), .val (.long x0), .second] [])) _
        refine XS.iload X0.here hx rfl (hb hby d7_8) rfl ?_
        show Steps p.tables e below (s₁.setTop (mkF m 10 #[.val (.ref oe), .val (.int (0 : Int32)), .val (.int (1 : Int32)), .val (.long qk), .second, .val (.int (0 : Int32)), .val (.int (-1 : Int32)), .val (.int (0 : Int32)), .val (.long x0), .second] [(.int (0 : Int32))])) _
        refine XS.iload X0.here hx rfl (hb hby d7_10) rfl ?_
        show Steps p.tables e below (s₁.setTop (mkF m 12 #[.val (.ref oe), .val (.int (0 : Int32)), .val (.int (1 : Int32)), .val (.long qk), .second, .val (.int (0 : Int32)), .val (.int (-1 : Int32)), .val (.int (0 : Int32)), .val (.long x0), .second] [(.int (-1 : Int32)), (.int (0 : Int32))])) _
        refine XS.icmpYes X0.here hx rfl (pc0 := 12) (pc' := 68) rfl (hb hby d7_12) rfl (own_tlt (a := (-1 : Int32)) (b := (0 : Int32)) (by decide) (by decide) hc12_8).2.2.1 (by decide) (by decide) ?_
        show Steps p.tables e below (s₁.setTop (mkF m 68 #[.val (.ref oe), .val (.int (0 : Int32)), .val (.int (1 : Int32)), .val (.long qk), .second, .val (.int (0 : Int32)), .val (.int (-1 : Int32)), .val (.int (0 : Int32)), .val (.long x0), .second] [])) _
        refine XS.iload X0.here hx rfl (hb hby d7_68) rfl ?_
        show Steps p.tables e below (s₁.setTop (mkF m 70 #[.val (.ref oe), .val (.int (0 : Int32)), .val (.int (1 : Int32)), .val (.long qk), .second, .val (.int (0 : Int32)), .val (.int (-1 : Int32)), .val (.int (0 : Int32)), .val (.long x0), .second] [(.int (0 : Int32))])) _
        refine XS.iconst X0.here hx rfl (hb hby d7_70) ?_
        show Steps p.tables e below (s₁.setTop (mkF m 71 #[.val (.ref oe), .val (.int (0 : Int32)), .val (.int (1 : Int32)), .val (.long qk), .second, .val (.int (0 : Int32)), .val (.int (-1 : Int32)), .val (.int (0 : Int32)), .val (.long x0), .second] [(.int (1 : Int32)), (.int (0 : Int32))])) _
        refine XS.iadd X0.here hx rfl (hb hby d7_71) rfl ?_
        show Steps p.tables e below (s₁.setTop (mkF m 72 #[.val (.ref oe), .val (.int (0 : Int32)), .val (.int (1 : Int32)), .val (.long qk), .second, .val (.int (0 : Int32)), .val (.int (-1 : Int32)), .val (.int (0 : Int32)), .val (.long x0), .second] [(.int (1 : Int32))])) _
        refine XS.ineg X0.here hx rfl (hb hby d7_72) rfl ?_
        show Steps p.tables e below (s₁.setTop (mkF m 73 #[.val (.ref oe), .val (.int (0 : Int32)), .val (.int (1 : Int32)), .val (.long qk), .second, .val (.int (0 : Int32)), .val (.int (-1 : Int32)), .val (.int (0 : Int32)), .val (.long x0), .second] [(.int (-1 : Int32))])) _
        exact retI X0 hx Bd.returns (hb hby d7_73) hr
      · show Q_bz1 Z oe qk kE x0 h0 n0 _ s₁.heap _
        rw [e0]
        exact ⟨_, rfl, Or.inr (Or.inl ⟨rfl, by omega⟩), N0, rfl⟩
    · obtain ⟨fs, hr, hrun, hended, hW, hsame⟩ := X0.leave (v := some (.int (0 : Int32))) (fun h => by rw [Bd.returns] at h; cases h)
      refine ⟨_, _, pre7 _ ?_, hrun, hended, _, _, rfl, ?_, ⟨_, rfl⟩, hW, hsame.mono (by decide) (by decide)⟩
      · show Steps p.tables e below (s₁.setTop (mkF m 50 #[.val (.ref oe), .val (.int (0 : Int32)), .val (.int (1 : Int32)), .val (.long qk), .second, .val (.int (0 : Int32)), .val (.int (0 : Int32)), .val (.int (0 : Int32)), .val (.long x0), .second] [(.int (lcmpW x0 qk))])) _
        refine XS.ifYes X0.here hx rfl (pc0 := 50) (pc' := 62) rfl (hb hby d7_50) rfl (own_if (own_fgtL (x := x0) (y := qk) rfl rfl hc50_6).2) (by decide) (by decide) ?_
        show Steps p.tables e below (s₁.setTop (mkF m 62 #[.val (.ref oe), .val (.int (0 : Int32)), .val (.int (1 : Int32)), .val (.long qk), .second, .val (.int (0 : Int32)), .val (.int (0 : Int32)), .val (.int (0 : Int32)), .val (.long x0), .second] [])) _
        refine XS.iload X0.here hx rfl (hb hby d7_62) rfl ?_
        show Steps p.tables e below (s₁.setTop (mkF m 64 #[.val (.ref oe), .val (.int (0 : Int32)), .val (.int (1 : Int32)), .val (.long qk), .second, .val (.int (0 : Int32)), .val (.int (0 : Int32)), .val (.int (0 : Int32)), .val (.long x0), .second] [(.int (0 : Int32))])) _
        exact retI X0 hx Bd.returns (hb hby d7_64) hr
      · show Q_bz1 Z oe qk kE x0 h0 n0 _ s₁.heap _
        rw [e0]
        exact ⟨_, rfl, Or.inl ⟨rfl, by omega⟩, N0, rfl⟩
theorem ef_rm_bs1 (m : MethodId) (x0 : Addr) (x3 : Int64) : entryFrame m #[(.ref x0), (.int (0 : Int32)), (.int (1 : Int32)), (.long x3)] 5 = mkF m 0 #[.val (.ref x0), .val (.int (0 : Int32)), .val (.int (1 : Int32)), .val (.long x3), .second] [] := by first | (simp [entryFrame, mkF, argsToLocals, Value.category]; done) | rfl
def Q_bs1 (Z : State) (oe : Addr) (qk : Int64) (kE : ClassId) (x0 : Int64) (h0 : Heap) (n0 : Nat) (v : Option Value) (h : Heap) (L : List Loc) : Prop := ∃ z : Int32, v = some (.int z) ∧ ((z = (0 : Int32) ∧ x0.toInt = qk.toInt) ∨ (z = (-1 : Int32) ∧ qk.toInt < x0.toInt) ∨ (z = (-2 : Int32) ∧ x0.toInt < qk.toInt)) ∧ Fr n0 L ∧ h = h0
set_option maxRecDepth 65536 in
set_option maxHeartbeats 40000000 in
theorem rm_bs1 (l : Launch) (Z : State) (a0 : Array Value) (hw : ∀ d ∈ tables_1, d.before a0 Z = true) (ws : List Jvm.Cond) (oe : Addr) (qk : Int64) (kE : ClassId) (x0 : Int64) (h0 : Heap) (n0 : Nat) (Z0 : n0 ≤ h0.size) (Ve : Arv Z h0 oe kE .long (16 : Int32) [(.long x0), (.long (0 : Int64)), (.long (0 : Int64)), (.long (0 : Int64))] (.long (0 : Int64))) :
    MetFree l (⟨"java/util/Arrays", "binarySearch", "([JIIJ)I"⟩ : MethodName) (head1 (Jvm.Cond.code (⟨"java/util/Arrays", "binarySearch", "([JIIJ)I"⟩ : MethodName) jdk_65_method_55_code 5 (some .int) :: ws) ({ frames := 1, cells := 0, slots := 0, locals := 21 } : Room)) (fun a U => a = #[(.ref oe), (.int (0 : Int32)), (.int (1 : Int32)), (.long qk)] ∧ Z.Warmed39 U.vm ∧ U.heap = h0) (fun _ _ _ _ _ => True) (fun _ U o U' => ∃ v L, o = .returned v ∧ Q_bs1 Z oe qk kE x0 h0 n0 v U'.heap L ∧ FrameEnd U o U' L ({ frames := 1, cells := 0, slots := 0, locals := 21 } : Room).cells ({ frames := 1, cells := 0, slots := 0, locals := 21 } : Room).slots) := by
  refine MetFree.of_bodySF (plainFor_of_name pn_0) hisR ?_
  intro p e s m args below meth c s₁ Bd hml0 hP hK
  obtain ⟨rfl, hZ, hh⟩ := hP
  have hx := Bd.exec
  have hby := Bd.bytes
  have hml : c.maxLocals = 5 := hml0
  have hown : s.vm.findClass "java/util/Arrays" = some m.cls := findClass_of_methodNamed Bd.named
  have hnm := (name_of_methodNamed Bd.named Bd.method).1
  have X0 : Stand p l e ({ frames := 1, cells := 0, slots := 0, locals := 21 } : Room) s m #[(.ref oe), (.int (0 : Int32)), (.int (1 : Int32)), (.long qk)] below meth c s₁ [] 0 0 := Stand.of_body Bd
  have e0 : s₁.heap = h0 := by rw [← hh, Bd.state]; rfl
  have N0 := Fr.nil n0
  have pre0 : ∀ t, Steps p.tables e below (s₁.setTop (mkF m 0 #[.val (.ref oe), .val (.int (0 : Int32)), .val (.int (1 : Int32)), .val (.long qk), .second] [])) t → Steps p.tables e below (s₁.setTop (entryFrame m #[(.ref oe), (.int (0 : Int32)), (.int (1 : Int32)), (.long qk)] 5)) t := fun t k => castTop (ef_rm_bs1 m oe qk) k
  obtain ⟨cl1, Ar1, q1, S1, M1, H1, G1⟩ := id Ve
  obtain ⟨_, _, ⟨T2, L2, k2, n2⟩, -, X2, ⟨Lc2, hQ2, l2, y2, z2⟩, st2⟩ := Jvm.LawKit.callS X0 hx (y := (⟨"java/util/Arrays", "rangeCheck", "(III)V"⟩ : MethodName)) hown (mvT hZ (hw _ (List.mem_of_getElem? (i := 30) rfl))) (mvT hZ (hw _ (List.mem_of_getElem? (i := 31) rfl))) (mvT hZ (hw _ (List.mem_of_getElem? (i := 28) rfl))) (mvT hZ (hw _ (List.mem_of_getElem? (i := 32) rfl))) (by decide) (backOf (W := 0) (rm6 l Z a0 hw [] (16 : Int32) (0 : Int32) (1 : Int32) h0 n0 Z0 (by decide) (by decide) (by decide)) hZ (hw _ (List.mem_of_getElem? (i := 32) rfl)) (hw _ (List.mem_of_getElem? (i := 28) rfl)) (by decide) (by decide)) (g := (mkF m 4 #[.val (.ref oe), .val (.int (0 : Int32)), .val (.int (1 : Int32)), .val (.long qk), .second] [(.int (1 : Int32)), (.int (0 : Int32)), (.int (16 : Int32))])) rfl (by rw [hml]; rfl) (argsL := [(.int (16 : Int32)), (.int (0 : Int32)), (.int (1 : Int32))]) (rest := []) (lenOf pd_0 rfl) rfl (by show 2 * 0 + _ ≤ _; exact Nat.le_of_eq rfl) (hb hby d5_4) (fun _ _ => ⟨rfl, e0, (by decide : 0 + 0 ≤ _), (by decide : 0 + 0 ≤ _)⟩)
  dsimp only [Pt.U, Pt.locs, Pt.cells, Pt.slots] at X2 l2 y2 z2 st2 hQ2
  subst l2 y2 z2
  obtain ⟨rfl, N2q, e2⟩ := hQ2
  have N2 := Fr.app N0 N2q
  obtain ⟨_, _, ⟨T3, L3, k3, n3⟩, -, X3, ⟨Lc3, hQ3, l3, y3, z3⟩, st3⟩ := Jvm.LawKit.callS X2 hx (y := (⟨"java/util/Arrays", "binarySearch0", "([JIIJ)I"⟩ : MethodName)) hown (mvT hZ (hw _ (List.mem_of_getElem? (i := 33) rfl))) (mvT hZ (hw _ (List.mem_of_getElem? (i := 34) rfl))) (mvT hZ (hw _ (List.mem_of_getElem? (i := 28) rfl))) (mvT hZ (hw _ (List.mem_of_getElem? (i := 35) rfl))) (by decide) (backOf (W := 0) (rm_bz1 l Z a0 hw [] oe qk kE x0 h0 n0 Z0 Ve) hZ (hw _ (List.mem_of_getElem? (i := 35) rfl)) (hw _ (List.mem_of_getElem? (i := 28) rfl)) (by decide) (by decide)) (g := (mkF m 11 #[.val (.ref oe), .val (.int (0 : Int32)), .val (.int (1 : Int32)), .val (.long qk), .second] [(.long qk), (.int (1 : Int32)), (.int (0 : Int32)), (.ref oe)])) rfl (by rw [hml]; rfl) (argsL := [(.ref oe), (.int (0 : Int32)), (.int (1 : Int32)), (.long qk)]) (rest := []) (lenOf pd_1 rfl) rfl (by show 2 * 0 + _ ≤ _; exact Nat.le_of_eq rfl) (hb hby d5_11) (fun _ _ => ⟨rfl, e2, (by decide : 0 + 0 ≤ _), (by decide : 0 + 0 ≤ _)⟩)
  dsimp only [Pt.U, Pt.locs, Pt.cells, Pt.slots] at X3 l3 y3 z3 st3 hQ3
  subst l3 y3 z3
  obtain ⟨rb, rfl, hrb, N3q, e3⟩ := hQ3
  have N3 := Fr.app N2 N3q
  obtain ⟨fs, hr, hrun, hended, hW, hsame⟩ := X3.leave (v := some (.int rb)) (fun h => by rw [Bd.returns] at h; cases h)
  refine ⟨_, _, pre0 _ ?_, hrun, hended, _, _, rfl, ?_, ⟨_, rfl⟩, hW, hsame.mono (by decide) (by decide)⟩
  · show Steps p.tables e below (s₁.setTop (mkF m 0 #[.val (.ref oe), .val (.int (0 : Int32)), .val (.int (1 : Int32)), .val (.long qk), .second] [])) _
    refine XS.aloadN X0.here hx rfl (hb hby d5_0) rfl rfl ?_
    show Steps p.tables e below (s₁.setTop (mkF m 1 #[.val (.ref oe), .val (.int (0 : Int32)), .val (.int (1 : Int32)), .val (.long qk), .second] [(.ref oe)])) _
    refine X0.arraylength hx (by rw [e0]; exact Ar1.1) (State.isArrayOf_alike hZ.alike Ar1.2.1) (g := (mkF m 1 #[.val (.ref oe), .val (.int (0 : Int32)), .val (.int (1 : Int32)), .val (.long qk), .second] [(.ref oe)])) rfl rfl (hb hby d5_1) _ ?_
    rw [len_of S1 M1]
    show Steps p.tables e below (s₁.setTop (mkF m 2 #[.val (.ref oe), .val (.int (0 : Int32)), .val (.int (1 : Int32)), .val (.long qk), .second] [(.int (16 : Int32))])) _
    refine XS.iloadN X0.here hx rfl (hb hby d5_2) rfl ?_
    show Steps p.tables e below (s₁.setTop (mkF m 3 #[.val (.ref oe), .val (.int (0 : Int32)), .val (.int (1 : Int32)), .val (.long qk), .second] [(.int (0 : Int32)), (.int (16 : Int32))])) _
    refine XS.iloadN X0.here hx rfl (hb hby d5_3) rfl ?_
    show Steps p.tables e below (s₁.setTop (mkF m 4 #[.val (.ref oe), .val (.int (0 : Int32)), .val (.int (1 : Int32)), .val (.long qk), .second] [(.int (1 : Int32)), (.int (0 : Int32)), (.int (16 : Int32))])) _
    refine st2 _ ?_
    show Steps p.tables e below (T2.setTop (mkF m 7 #[.val (.ref oe), .val (.int (0 : Int32)), .val (.int (1 : Int32)), .val (.long qk), .second] [])) _
    refine XS.aloadN X2.here hx rfl (hb hby d5_7) rfl rfl ?_
    show Steps p.tables e below (T2.setTop (mkF m 8 #[.val (.ref oe), .val (.int (0 : Int32)), .val (.int (1 : Int32)), .val (.long qk), .second] [(.ref oe)])) _
    refine XS.iloadN X2.here hx rfl (hb hby d5_8) rfl ?_
    show Steps p.tables e below (T2.setTop (mkF m 9 #[.val (.ref oe), .val (.int (0 : Int32)), .val (.int (1 : Int32)), .val (.long qk), .second] [(.int (0 : Int32)), (.ref oe)])) _
    refine XS.iloadN X2.here hx rfl (hb hby d5_9) rfl ?_
    show Steps p.tables e below (T2.setTop (mkF m 10 #[.val (.ref oe), .val (.int (0 : Int32)), .val (.int (1 : Int32)), .val (.long qk), .second] [(.int (1 : Int32)), (.int (0 : Int32)), (.ref oe)])) _
    refine XS.lloadN X2.here hx rfl (hb hby d5_10) rfl ?_
    show Steps p.tables e below (T2.setTop (mkF m 11 #[.val (.ref oe), .val (.int (0 : Int32)), .val (.int (1 : Int32)), .val (.long qk), .second] [(.long qk), (.int (1 : Int32)), (.int (0 : Int32)), (.ref oe)])) _
    refine st3 _ ?_
    show Steps p.tables e below (T3.setTop (mkF m 14 #[.val (.ref oe), .val (.int (0 : Int32)), .val (.int (1 : Int32)), .val (.long qk), .second] [(.int rb)])) _
    exact retI X3 hx Bd.returns (hb hby d5_14) hr
  · show Q_bs1 Z oe qk kE x0 h0 n0 _ T3.heap _
    rw [e3]
    exact ⟨_, rfl, hrb, N3, rfl⟩
theorem ef_rm_bz2 (m : MethodId) (x0 : Addr) (x3 : Int64) : entryFrame m #[(.ref x0), (.int (0 : Int32)), (.int (2 : Int32)), (.long x3)] 10 = mkF m 0 #[.val (.ref x0), .val (.int (0 : Int32)), .val (.int (2 : Int32)), .val (.long x3), .second, .unset, .unset, .unset, .unset, .unset] [] := by first | (simp [entryFrame, mkF, argsToLocals, Value.category]; done) | rfl
def Q_bz2 (Z : State) (oe : Addr) (qk : Int64) (kE : ClassId) (x0 : Int64) (x1 : Int64) (h0 : Heap) (n0 : Nat) (v : Option Value) (h : Heap) (L : List Loc) : Prop := ∃ z : Int32, v = some (.int z) ∧ ((z = (0 : Int32) ∧ x0.toInt = qk.toInt) ∨ (z = (1 : Int32) ∧ x1.toInt = qk.toInt) ∨ (z = (-1 : Int32) ∧ qk.toInt < x0.toInt) ∨ (z = (-2 : Int32) ∧ x0.toInt < qk.toInt ∧ qk.toInt < x1.toInt) ∨ (z = (-3 : Int32) ∧ x1.toInt < qk.toInt)) ∧ Fr n0 L ∧ h = h0
set_option maxRecDepth 65536 in
set_option maxHeartbeats 40000000 in
theorem rm_bz2 (l : Launch) (Z : State) (a0 : Array Value) (hw : ∀ d ∈ tables_1, d.before a0 Z = true) (ws : List Jvm.Cond) (oe : Addr) (qk : Int64) (kE : ClassId) (x0 : Int64) (x1 : Int64) (h0 : Heap) (n0 : Nat) (Z0 : n0 ≤ h0.size) (Ve : Arv Z h0 oe kE .long (16 : Int32) [(.long x0), (.long x1), (.long (0 : Int64)), (.long (0 : Int64))] (.long (0 : Int64))) (os0 : x0.toInt < x1.toInt) :
    MetFree l (⟨"java/util/Arrays", "binarySearch0", "([JIIJ)I"⟩ : MethodName) (head1 (Jvm.Cond.code (⟨"java/util/Arrays", "binarySearch0", "([JIIJ)I"⟩ : MethodName) jdk_65_method_56_code 10 (some .int) :: ws) ({ frames := 0, cells := 0, slots := 0, locals := 0 } : Room)) (fun a U => a = #[(.ref oe), (.int (0 : Int32)), (.int (2 : Int32)), (.long qk)] ∧ Z.Warmed39 U.vm ∧ U.heap = h0) (fun _ _ _ _ _ => True) (fun _ U o U' => ∃ v L, o = .returned v ∧ Q_bz2 Z oe qk kE x0 x1 h0 n0 v U'.heap L ∧ FrameEnd U o U' L ({ frames := 0, cells := 0, slots := 0, locals := 0 } : Room).cells ({ frames := 0, cells := 0, slots := 0, locals := 0 } : Room).slots) := by
  refine MetFree.of_bodySF (plainFor_of_name pn_0) hisR ?_
  intro p e s m args below meth c s₁ Bd hml0 hP hK
  obtain ⟨rfl, hZ, hh⟩ := hP
  have hx := Bd.exec
  have hby := Bd.bytes
  have hml : c.maxLocals = 10 := hml0
  have hown : s.vm.findClass "java/util/Arrays" = some m.cls := findClass_of_methodNamed Bd.named
  have hnm := (name_of_methodNamed Bd.named Bd.method).1
  have X0 : Stand p l e ({ frames := 0, cells := 0, slots := 0, locals := 0 } : Room) s m #[(.ref oe), (.int (0 : Int32)), (.int (2 : Int32)), (.long qk)] below meth c s₁ [] 0 0 := Stand.of_body Bd
  have e0 : s₁.heap = h0 := by rw [← hh, Bd.state]; rfl
  have N0 := Fr.nil n0
  have pre0 : ∀ t, Steps p.tables e below (s₁.setTop (mkF m 0 #[.val (.ref oe), .val (.int (0 : Int32)), .val (.int (2 : Int32)), .val (.long qk), .second, .unset, .unset, .unset, .unset, .unset] [])) t → Steps p.tables e below (s₁.setTop (entryFrame m #[(.ref oe), (.int (0 : Int32)), (.int (2 : Int32)), (.long qk)] 10)) t := fun t k => castTop (ef_rm_bz2 m oe qk) k
  have hc12_1 : ¬ ((1 : Int) < (0 : Int)) := by decide
  obtain ⟨cl2, Ar2, q2, S2, M2, H2, G2⟩ := id Ve
  have hin2 : ¬ ((0 : Int32) < 0 ∨ cl2.slots.size ≤ ((0 : Int32)).toNatClampNeg) := inb_of S2 ⟨by decide, by decide⟩
  have hat2 : cl2.slots[((0 : Int32)).toNatClampNeg]? = some (.long x0) := Has.at H2 hin2 rfl
  have pre4 : ∀ t, Steps p.tables e below (s₁.setTop (mkF m 34 #[.val (.ref oe), .val (.int (0 : Int32)), .val (.int (2 : Int32)), .val (.long qk), .second, .val (.int (0 : Int32)), .val (.int (1 : Int32)), .val (.int (0 : Int32)), .val (.long x0), .second] [(.int (lcmpW x0 qk))])) t → Steps p.tables e below (s₁.setTop (entryFrame m #[(.ref oe), (.int (0 : Int32)), (.int (2 : Int32)), (.long qk)] 10)) t := fun t kt => by
    refine pre0 _ ?_
    show Steps p.tables e below (s₁.setTop (mkF m 0 #[.val (.ref oe), .val (.int (0 : Int32)), .val (.int (2 : Int32)), .val (.long qk), .second, .unset, .unset, .unset, .unset, .unset] [])) _
    refine XS.iloadN X0.here hx rfl (hb hby d7_0) rfl ?_
    show Steps p.tables e below (s₁.setTop (mkF m 1 #[.val (.ref oe), .val (.int (0 : Int32)), .val (.int (2 : Int32)), .val (.long qk), .second, .unset, .unset, .unset, .unset, .unset] [(.int (0 : Int32))])) _
    refine XS.istore X0.here hx rfl (hb hby d7_1) rfl (l' := #[.val (.ref oe), .val (.int (0 : Int32)), .val (.int (2 : Int32)), .val (.long qk), .second, .val (.int (0 : Int32)), .unset, .unset, .unset, .unset]) rfl ?_
    show Steps p.tables e below (s₁.setTop (mkF m 3 #[.val (.ref oe), .val (.int (0 : Int32)), .val (.int (2 : Int32)), .val (.long qk), .second, .val (.int (0 : Int32)), .unset, .unset, .unset, .unset] [])) _
    refine XS.iloadN X0.here hx rfl (hb hby d7_3) rfl ?_
    show Steps p.tables e below (s₁.setTop (mkF m 4 #[.val (.ref oe), .val (.int (0 : Int32)), .val (.int (2 : Int32)), .val (.long qk), .second, .val (.int (0 : Int32)), .unset, .unset, .unset, .unset] [(.int (2 : Int32))])) _
    refine XS.iconst X0.here hx rfl (hb hby d7_4) ?_
    show Steps p.tables e below (s₁.setTop (mkF m 5 #[.val (.ref oe), .val (.int (0 : Int32)), .val (.int (2 : Int32)), .val (.long qk), .second, .val (.int (0 : Int32)), .unset, .unset, .unset, .unset] [(.int (1 : Int32)), (.int (2 : Int32))])) _
    refine XS.isub X0.here hx rfl (hb hby d7_5) rfl ?_
    show Steps p.tables e below (s₁.setTop (mkF m 6 #[.val (.ref oe), .val (.int (0 : Int32)), .val (.int (2 : Int32)), .val (.long qk), .second, .val (.int (0 : Int32)), .unset, .unset, .unset, .unset] [(.int (1 : Int32))])) _
    refine XS.istore X0.here hx rfl (hb hby d7_6) rfl (l' := #[.val (.ref oe), .val (.int (0 : Int32)), .val (.int (2 : Int32)), .val (.long qk), .second, .val (.int (0 : Int32)), .val (.int (1 : Int32)), .unset, .unset, .unset]) rfl ?_
    show Steps p.tables e below (s₁.setTop (mkF m 8 #[.val (.ref oe), .val (.int (0 : Int32)), .val (.int (2 : Int32)), .val (.long qk), .second, .val (.int (0 : Int32)), .val (.int (1 : Int32)), .unset, .unset, .unset] [])) _
    refine XS.iload X0.here hx rfl (hb hby d7_8) rfl ?_
    show Steps p.tables e below (s₁.setTop (mkF m 10 #[.val (.ref oe), .val (.int (0 : Int32)), .val (.int (2 : Int32)), .val (.long qk), .second, .val (.int (0 : Int32)), .val (.int (1 : Int32)), .unset, .unset, .unset] [(.int (0 : Int32))])) _
    refine XS.iload X0.here hx rfl (hb hby d7_10) rfl ?_
    show Steps p.tables e below (s₁.setTop (mkF m 12 #[.val (.ref oe), .val (.int (0 : Int32)), .val (.int (2 : Int32)), .val (.long qk), .second, .val (.int (0 : Int32)), .val (.int (1 : Int32)), .unset, .unset, .unset] [(.int (1 : Int32)), (.int (0 : Int32))])) _
    refine XS.icmpNo X0.here hx rfl (hb hby d7_12) rfl (own_flt (a := (1 : Int32)) (b := (0 : Int32)) (by decide) (by decide) hc12_1).2.2.1 ?_
    show Steps p.tables e below (s₁.setTop (mkF m 15 #[.val (.ref oe), .val (.int (0 : Int32)), .val (.int (2 : Int32)), .val (.long qk), .second, .val (.int (0 : Int32)), .val (.int (1 : Int32)), .unset, .unset, .unset] [])) _
    refine XS.iload X0.here hx rfl (hb hby d7_15) rfl ?_
    show Steps p.tables e below (s₁.setTop (mkF m 17 #[.val (.ref oe), .val (.int (0 : Int32)), .val (.int (2 : Int32)), .val (.long qk), .second, .val (.int (0 : Int32)), .val (.int (1 : Int32)), .unset, .unset, .unset] [(.int (0 : Int32))])) _
    refine XS.iload X0.here hx rfl (hb hby d7_17) rfl ?_
    show Steps p.tables e below (s₁.setTop (mkF m 19 #[.val (.ref oe), .val (.int (0 : Int32)), .val (.int (2 : Int32)), .val (.long qk), .second, .val (.int (0 : Int32)), .val (.int (1 : Int32)), .unset, .unset, .unset] [(.int (1 : Int32)), (.int (0 : Int32))])) _
    refine XS.iadd X0.here hx rfl (hb hby d7_19) rfl ?_
    show Steps p.tables e below (s₁.setTop (mkF m 20 #[.val (.ref oe), .val (.int (0 : Int32)), .val (.int (2 : Int32)), .val (.long qk), .second, .val (.int (0 : Int32)), .val (.int (1 : Int32)), .unset, .unset, .unset] [(.int (1 : Int32))])) _
    refine XS.iconst X0.here hx rfl (hb hby d7_20) ?_
    show Steps p.tables e below (s₁.setTop (mkF m 21 #[.val (.ref oe), .val (.int (0 : Int32)), .val (.int (2 : Int32)), .val (.long qk), .second, .val (.int (0 : Int32)), .val (.int (1 : Int32)), .unset, .unset, .unset] [(.int (1 : Int32)), (.int (1 : Int32))])) _
    refine XS.iushr X0.here hx rfl (hb hby d7_21) rfl ?_
    show Steps p.tables e below (s₁.setTop (mkF m 22 #[.val (.ref oe), .val (.int (0 : Int32)), .val (.int (2 : Int32)), .val (.long qk), .second, .val (.int (0 : Int32)), .val (.int (1 : Int32)), .unset, .unset, .unset] [(.int (0 : Int32))])) _
    refine XS.istore X0.here hx rfl (hb hby d7_22) rfl (l' := #[.val (.ref oe), .val (.int (0 : Int32)), .val (.int (2 : Int32)), .val (.long qk), .second, .val (.int (0 : Int32)), .val (.int (1 : Int32)), .val (.int (0 : Int32)), .unset, .unset]) rfl ?_
    show Steps p.tables e below (s₁.setTop (mkF m 24 #[.val (.ref oe), .val (.int (0 : Int32)), .val (.int (2 : Int32)), .val (.long qk), .second, .val (.int (0 : Int32)), .val (.int (1 : Int32)), .val (.int (0 : Int32)), .unset, .unset] [])) _
    refine XS.aloadN X0.here hx rfl (hb hby d7_24) rfl rfl ?_
    show Steps p.tables e below (s₁.setTop (mkF m 25 #[.val (.ref oe), .val (.int (0 : Int32)), .val (.int (2 : Int32)), .val (.long qk), .second, .val (.int (0 : Int32)), .val (.int (1 : Int32)), .val (.int (0 : Int32)), .unset, .unset] [(.ref oe)])) _
    refine XS.iload X0.here hx rfl (hb hby d7_25) rfl ?_
    show Steps p.tables e below (s₁.setTop (mkF m 27 #[.val (.ref oe), .val (.int (0 : Int32)), .val (.int (2 : Int32)), .val (.long qk), .second, .val (.int (0 : Int32)), .val (.int (1 : Int32)), .val (.int (0 : Int32)), .unset, .unset] [(.int (0 : Int32)), (.ref oe)])) _
    refine X0.laload hx (j := (0 : Int32)) (v := (.long x0)) (by rw [e0]; exact Ar2.1) (State.isArrayOf_alike hZ.alike Ar2.2.1) Ar2.2.2 hin2 hat2 (g := (mkF m 27 #[.val (.ref oe), .val (.int (0 : Int32)), .val (.int (2 : Int32)), .val (.long qk), .second, .val (.int (0 : Int32)), .val (.int (1 : Int32)), .val (.int (0 : Int32)), .unset, .unset] [(.int (0 : Int32)), (.ref oe)])) rfl rfl (hb hby d7_27) _ ?_
    show Steps p.tables e below (s₁.setTop (mkF m 28 #[.val (.ref oe), .val (.int (0 : Int32)), .val (.int (2 : Int32)), .val (.long qk), .second, .val (.int (0 : Int32)), .val (.int (1 : Int32)), .val (.int (0 : Int32)), .unset, .unset] [(.long x0)])) _
    refine XS.lstore X0.here hx rfl (hb hby d7_28) rfl (l' := #[.val (.ref oe), .val (.int (0 : Int32)), .val (.int (2 : Int32)), .val (.long qk), .second, .val (.int (0 : Int32)), .val (.int (1 : Int32)), .val (.int (0 : Int32)), .val (.long x0), .second]) rfl ?_
    show Steps p.tables e below (s₁.setTop (mkF m 30 #[.val (.ref oe), .val (.int (0 : Int32)), .val (.int (2 : Int32)), .val (.long qk), .second, .val (.int (0 : Int32)), .val (.int (1 : Int32)), .val (.int (0 : Int32)), .val (.long x0), .second] [])) _
    refine XS.lload X0.here hx rfl (hb hby d7_30) rfl ?_
    show Steps p.tables e below (s₁.setTop (mkF m 32 #[.val (.ref oe), .val (.int (0 : Int32)), .val (.int (2 : Int32)), .val (.long qk), .second, .val (.int (0 : Int32)), .val (.int (1 : Int32)), .val (.int (0 : Int32)), .val (.long x0), .second] [(.long x0)])) _
    refine XS.lloadN X0.here hx rfl (hb hby d7_32) rfl ?_
    show Steps p.tables e below (s₁.setTop (mkF m 33 #[.val (.ref oe), .val (.int (0 : Int32)), .val (.int (2 : Int32)), .val (.long qk), .second, .val (.int (0 : Int32)), .val (.int (1 : Int32)), .val (.int (0 : Int32)), .val (.long x0), .second] [(.long qk), (.long x0)])) _
    refine XS.lcmp X0.here hx rfl (hb hby d7_33) rfl ?_
    exact kt
  by_cases hc34_3 : x0.toInt < qk.toInt
  · have hc12_5 : ¬ ((1 : Int) < (1 : Int)) := by decide
    obtain ⟨cl6, Ar6, q6, S6, M6, H6, G6⟩ := id Ve
    have hin6 : ¬ ((1 : Int32) < 0 ∨ cl6.slots.size ≤ ((1 : Int32)).toNatClampNeg) := inb_of S6 ⟨by decide, by decide⟩
    have hat6 : cl6.slots[((1 : Int32)).toNatClampNeg]? = some (.long x1) := Has.at H6 hin6 rfl
    have pre8 : ∀ t, Steps p.tables e below (s₁.setTop (mkF m 34 #[.val (.ref oe), .val (.int (0 : Int32)), .val (.int (2 : Int32)), .val (.long qk), .second, .val (.int (1 : Int32)), .val (.int (1 : Int32)), .val (.int (1 : Int32)), .val (.long x1), .second] [(.int (lcmpW x1 qk))])) t → Steps p.tables e below (s₁.setTop (entryFrame m #[(.ref oe), (.int (0 : Int32)), (.int (2 : Int32)), (.long qk)] 10)) t := fun t kt => by
      refine pre4 _ ?_
      show Steps p.tables e below (s₁.setTop (mkF m 34 #[.val (.ref oe), .val (.int (0 : Int32)), .val (.int (2 : Int32)), .val (.long qk), .second, .val (.int (0 : Int32)), .val (.int (1 : Int32)), .val (.int (0 : Int32)), .val (.long x0), .second] [(.int (lcmpW x0 qk))])) _
      refine XS.ifNo X0.here hx rfl (hb hby d7_34) rfl (own_if (own_tltL (x := x0) (y := qk) rfl rfl hc34_3).2) ?_
      show Steps p.tables e below (s₁.setTop (mkF m 37 #[.val (.ref oe), .val (.int (0 : Int32)), .val (.int (2 : Int32)), .val (.long qk), .second, .val (.int (0 : Int32)), .val (.int (1 : Int32)), .val (.int (0 : Int32)), .val (.long x0), .second] [])) _
      refine XS.iload X0.here hx rfl (hb hby d7_37) rfl ?_
      show Steps p.tables e below (s₁.setTop (mkF m 39 #[.val (.ref oe), .val (.int (0 : Int32)), .val (.int (2 : Int32)), .val (.long qk), .second, .val (.int (0 : Int32)), .val (.int (1 : Int32)), .val (.int (0 : Int32)), .val (.long x0), .second] [(.int (0 : Int32))])) _
      refine XS.iconst X0.here hx rfl (hb hby d7_39) ?_
      show Steps p.tables e below (s₁.setTop (mkF m 40 #[.val (.ref oe), .val (.int (0 : Int32)), .val (.int (2 : Int32)), .val (.long qk), .second, .val (.int (0 : Int32)), .val (.int (1 : Int32)), .val (.int (0 : Int32)), .val (.long x0), .second] [(.int (1 : Int32)), (.int (0 : Int32))])) _
      refine XS.iadd X0.here hx rfl (hb hby d7_40) rfl ?_
      show Steps p.tables e below (s₁.setTop (mkF m 41 #[.val (.ref oe), .val (.int (0 : Int32)), .val (.int (2 : Int32)), .val (.long qk), .second, .val (.int (0 : Int32)), .val (.int (1 : Int32)), .val (.int (0 : Int32)), .val (.long x0), .second] [(.int (1 : Int32))])) _
      refine XS.istore X0.here hx rfl (hb hby d7_41) rfl (l' := #[.val (.ref oe), .val (.int (0 : Int32)), .val (.int (2 : Int32)), .val (.long qk), .second, .val (.int (1 : Int32)), .val (.int (1 : Int32)), .val (.int (0 : Int32)), .val (.long x0), .second]) rfl ?_
      show Steps p.tables e below (s₁.setTop (mkF m 43 #[.val (.ref oe), .val (.int (0 : Int32)), .val (.int (2 : Int32)), .val (.long qk), .second, .val (.int (1 : Int32)), .val (.int (1 : Int32)), .val (.int (0 : Int32)), .val (.long x0), .second] [])) _
      refine XS.goto X0.here hx rfl (pc0 := 43) (pc' := 65) rfl (hb hby d7_43) (by decide) (by decide) ?_
      show Steps p.tables e below (s₁.setTop (mkF m 65 #[.val (.ref oe), .val (.int (0 : Int32)), .val (.int (2 : Int32)), .val (.long qk), .second, .val (.int (1 : Int32)), .val (.int (1 : Int32)), .val (.int (0 : Int32)), .val (.long x0), .second] [])) _
      refine XS.goto X0.here hx rfl (pc0 := 65) (pc' := 8) rfl (hb hby d7_65) (by decide) (by decide) ?_
      show Steps p.tables e below (s₁.setTop (mkF m 8 #[.val (.ref oe), .val (.int (0 : Int32)), .val (.int (2 : Int32)), .val (.long qk), .second, .val (.int (1 : Int32)), .val (.int (1 : Int32)), .val (.int (0 : Int32)), .val (.long x0), .second] [])) _
      refine XS.iload X0.here hx rfl (hb hby d7_8) rfl ?_
      show Steps p.tables e below (s₁.setTop (mkF m 10 #[.val (.ref oe), .val (.int (0 : Int32)), .val (.int (2 : Int32)), .val (.long qk), .second, .val (.int (1 : Int32)), .val (.int (1 : Int32)), .val (.int (0 : Int32)), .val (.long x0), .second] [(.int (1 : Int32))])) _
      refine XS.iload X0.here hx rfl (hb hby d7_10) rfl ?_
      show Steps p.tables e below (s₁.setTop (mkF m 12 #[.val (.ref oe), .val (.int (0 : Int32)), .val (.int (2 : Int32)), .val (.long qk), .second, .val (.int (1 : Int32)), .val (.int (1 : Int32)), .val (.int (0 : Int32)), .val (.long x0), .second] [(.int (1 : Int32)), (.int (1 : Int32))])) _
      refine XS.icmpNo X0.here hx rfl (hb hby d7_12) rfl (own_flt (a := (1 : Int32)) (b := (1 : Int32)) (by decide) (by decide) hc12_5).2.2.1 ?_
      show Steps p.tables e below (s₁.setTop (mkF m 15 #[.val (.ref oe), .val (.int (0 : Int32)), .val (.int (2 : Int32)), .val (.long qk), .second, .val (.int (1 : Int32)), .val (.int (1 : Int32)), .val (.int (0 : Int32)), .val (.long x0), .second] [])) _
      refine XS.iload X0.here hx rfl (hb hby d7_15) rfl ?_
      show Steps p.tables e below (s₁.setTop (mkF m 17 #[.val (.ref oe), .val (.int (0 : Int32)), .val (.int (2 : Int32)), .val (.long qk), .second, .val (.int (1 : Int32)), .val (.int (1 : Int32)), .val (.int (0 : Int32)), .val (.long x0), .second] [(.int (1 : Int32))])) _
      refine XS.iload X0.here hx rfl (hb hby d7_17) rfl ?_
      show Steps p.tables e below (s₁.setTop (mkF m 19 #[.val (.ref oe), .val (.int (0 : Int32)), .val (.int (2 : Int32)), .val (.long qk), .second, .val (.int (1 : Int32)), .val (.int (1 : Int32)), .val (.int (0 : Int32)), .val (.long x0), .second] [(.int (1 : Int32)), (.int (1 : Int32))])) _
      refine XS.iadd X0.here hx rfl (hb hby d7_19) rfl ?_
      show Steps p.tables e below (s₁.setTop (mkF m 20 #[.val (.ref oe), .val (.int (0 : Int32)), .val (.int (2 : Int32)), .val (.long qk), .second, .val (.int (1 : Int32)), .val (.int (1 : Int32)), .val (.int (0 : Int32)), .val (.long x0), .second] [(.int (2 : Int32))])) _
      refine XS.iconst X0.here hx rfl (hb hby d7_20) ?_
      show Steps p.tables e below (s₁.setTop (mkF m 21 #[.val (.ref oe), .val (.int (0 : Int32)), .val (.int (2 : Int32)), .val (.long qk), .second, .val (.int (1 : Int32)), .val (.int (1 : Int32)), .val (.int (0 : Int32)), .val (.long x0), .second] [(.int (1 : Int32)), (.int (2 : Int32))])) _
      refine XS.iushr X0.here hx rfl (hb hby d7_21) rfl ?_
      show Steps p.tables e below (s₁.setTop (mkF m 22 #[.val (.ref oe), .val (.int (0 : Int32)), .val (.int (2 : Int32)), .val (.long qk), .second, .val (.int (1 : Int32)), .val (.int (1 : Int32)), .val (.int (0 : Int32)), .val (.long x0), .second] [(.int (1 : Int32))])) _
      refine XS.istore X0.here hx rfl (hb hby d7_22) rfl (l' := #[.val (.ref oe), .val (.int (0 : Int32)), .val (.int (2 : Int32)), .val (.long qk), .second, .val (.int (1 : Int32)), .val (.int (1 : Int32)), .val (.int (1 : Int32)), .val (.long x0), .second]) rfl ?_
      show Steps p.tables e below (s₁.setTop (mkF m 24 #[.val (.ref oe), .val (.int (0 : Int32)), .val (.int (2 : Int32)), .val (.long qk), .second, .val (.int (1 : Int32)), .val (.int (1 : Int32)), .val (.int (1 : Int32)), .val (.long x0), .second] [])) _
      refine XS.aloadN X0.here hx rfl (hb hby d7_24) rfl rfl ?_
      show Steps p.tables e below (s₁.setTop (mkF m 25 #[.val (.ref oe), .val (.int (0 : Int32)), .val (.int (2 : Int32)), .val (.long qk), .second, .val (.int (1 : Int32)), .val (.int (1 : Int32)), .val (.int (1 : Int32)), .val (.long x0), .second] [(.ref oe)])) _
      refine XS.iload X0.here hx rfl (hb hby d7_25) rfl ?_
      show Steps p.tables e below (s₁.setTop (mkF m 27 #[.val (.ref oe), .val (.int (0 : Int32)), .val (.int (2 : Int32)), .val (.long qk), .second, .val (.int (1 : Int32)), .val (.int (1 : Int32)), .val (.int (1 : Int32)), .val (.long x0), .second] [(.int (1 : Int32)), (.ref oe)])) _
      refine X0.laload hx (j := (1 : Int32)) (v := (.long x1)) (by rw [e0]; exact Ar6.1) (State.isArrayOf_alike hZ.alike Ar6.2.1) Ar6.2.2 hin6 hat6 (g := (mkF m 27 #[.val (.ref oe), .val (.int (0 : Int32)), .val (.int (2 : Int32)), .val (.long qk), .second, .val (.int (1 : Int32)), .val (.int (1 : Int32)), .val (.int (1 : Int32)), .val (.long x0), .second] [(.int (1 : Int32)), (.ref oe)])) rfl rfl (hb hby d7_27) _ ?_
      show Steps p.tables e below (s₁.setTop (mkF m 28 #[.val (.ref oe), .val (.int (0 : Int32)), .val (.int (2 : Int32)), .val (.long qk), .second, .val (.int (1 : Int32)), .val (.int (1 : Int32)), .val (.int (1 : Int32)), .val (.long x0), .second] [(.long x1)])) _
      refine XS.lstore X0.here hx rfl (hb hby d7_28) rfl (l' := #[.val (.ref oe), .val (.int (0 : Int32)), .val (.int (2 : Int32)), .val (.long qk), .second, .val (.int (1 : Int32)), .val (.int (1 : Int32)), .val (.int (1 : Int32)), .val (.long x1), .second]) rfl ?_
      show Steps p.tables e below (s₁.setTop (mkF m 30 #[.val (.ref oe), .val (.int (0 : Int32)), .val (.int (2 : Int32)), .val (.long qk), .second, .val (.int (1 : Int32)), .val (.int (1 : Int32)), .val (.int (1 : Int32)), .val (.long x1), .second] [])) _
      refine XS.lload X0.here hx rfl (hb hby d7_30) rfl ?_
      show Steps p.tables e below (s₁.setTop (mkF m 32 #[.val (.ref oe), .val (.int (0 : Int32)), .val (.int (2 : Int32)), .val (.long qk), .second, .val (.int (1 : Int32)), .val (.int (1 : Int32)), .val (.int (1 : Int32)), .val (.long x1), .second] [(.long x1)])) _
      refine XS.lloadN X0.here hx rfl (hb hby d7_32) rfl ?_
      show Steps p.tables e below (s₁.setTop (mkF m 33 #[.val (.ref oe), .val (.int (0 : Int32)), .val (.int (2 : Int32)), .val (.long qk), .second, .val (.int (1 : Int32)), .val (.int (1 : Int32)), .val (.int (1 : Int32)), .val (.long x1), .second] [(.long qk), (.long x1)])) _
      refine XS.lcmp X0.here hx rfl (hb hby d7_33) rfl ?_
      exact kt
    by_cases hc34_7 : x1.toInt < qk.toInt
    · have hc12_9 : (1 : Int) < (2 : Int) := by decide
      obtain ⟨fs, hr, hrun, hended, hW, hsame⟩ := X0.leave (v := some (.int (-3 : Int32))) (fun h => by rw [Bd.returns] at h; cases h)
      refine ⟨_, _, pre8 _ ?_, hrun, hended, _, _, rfl, ?_, ⟨_, rfl⟩, hW, hsame.mono (by decide) (by decide)⟩
      · show Steps p.tables e below (s₁.setTop (mkF m 34 #[.val (.ref oe), .val (.int (0 : Int32)), .val (.int (2 : Int32)), .val (.long qk), .second, .val (.int (1 : Int32)), .val (.int (1 : Int32)), .val (.int (1 : Int32)), .val (.long x1), .second] [(.int (lcmpW x1 qk))])) _
        refine XS.ifNo X0.here hx rfl (hb hby d7_34) rfl (own_if (own_tltL (x := x1) (y := qk) rfl rfl hc34_7).2) ?_
        show Steps p.tables e below (s₁.setTop (mkF m 37 #[.val (.ref oe), .val (.int (0 : Int32)), .val (.int (2 : Int32)), .val (.long qk), .second, .val (.int (1 : Int32)), .val (.int (1 : Int32)), .val (.int (1 : Int32)), .val (.long x1), .second] [])) _
        refine XS.iload X0.here hx rfl (hb hby d7_37) rfl ?_
        show Steps p.tables e below (s₁.setTop (mkF m 39 #[.val (.ref oe), .val (.int (0 : Int32)), .val (.int (2 : Int32)), .val (.long qk), .second, .val (.int (1 : Int32)), .val (.int (1 : Int32)), .val (.int (1 : Int32)), .val (.long x1), .second] [(.int (1 : Int32))])) _
        refine XS.iconst X0.here hx rfl (hb hby d7_39) ?_
        show Steps p.tables e below (s₁.setTop (mkF m 40 #[.val (.ref oe), .val (.int (0 : Int32)), .val (.int (2 : Int32)), .val (.long qk), .second, .val (.int (1 : Int32)), .val (.int (1 : Int32)), .val (.int (1 : Int32)), .val (.long x1), .second] [(.int (1 : Int32)), (.int (1 : Int32))])) _
        refine XS.iadd X0.here hx rfl (hb hby d7_40) rfl ?_
        show Steps p.tables e below (s₁.setTop (mkF m 41 #[.val (.ref oe), .val (.int (0 : Int32)), .val (.int (2 : Int32)), .val (.long qk), .second, .val (.int (1 : Int32)), .val (.int (1 : Int32)), .val (.int (1 : Int32)), .val (.long x1), .second] [(.int (2 : Int32))])) _
        refine XS.istore X0.here hx rfl (hb hby d7_41) rfl (l' := #[.val (.ref oe), .val (.int (0 : Int32)), .val (.int (2 : Int32)), .val (.long qk), .second, .val (.int (2 : Int32)), .val (.int (1 : Int32)), .val (.int (1 : Int32)), .val (.long x1), .second]) rfl ?_
        show Steps p.tables e below (s₁.setTop (mkF m 43 #[.val (.ref oe), .val (.int (0 : Int32)), .val (.int (2 : Int32)), .val (.long qk), .second, .val (.int (2 : Int32)), .val (.int (1 : Int32)), .val (.int (1 : Int32)), .val (.long x1), .second] [])) _
        refine XS.goto X0.here hx rfl (pc0 := 43) (pc' := 65) rfl (hb hby d7_43) (by decide) (by decide) ?_
        show Steps p.tables e below (s₁.setTop (mkF m 65 #[.val (.ref oe), .val (.int (0 : Int32)), .val (.int (2 : Int32)), .val (.long qk), .second, .val (.int (2 : Int32)), .val (.int (1 : Int32)), .val (.int (1 : Int32)), .val (.long x1), .second] [])) _
        refine XS.goto X0.here hx rfl (pc0 := 65) (pc' := 8) rfl (hb hby d7_65) (by decide) (by decide) ?_
        show Steps p.tables e below (s₁.setTop (mkF m 8 #[.val (.ref oe), .val (.int (0 : Int32)), .val (.int (2 : Int32)), .val (.long qk), .second, .val (.int (2 : Int32)), .val (.int (1 : Int32)), .val (.int (1 : Int32)), .val (.long x1), .second] [])) _
        refine XS.iload X0.here hx rfl (hb hby d7_8) rfl ?_
        show Steps p.tables e below (s₁.setTop (mkF m 10 #[.val (.ref oe), .val (.int (0 : Int32)), .val (.int (2 : Int32)), .val (.long qk), .second, .val (.int (2 : Int32)), .val (.int (1 : Int32)), .val (.int (1 : Int32)), .val (.long x1), .second] [(.int (2 : Int32))])) _
        refine XS.iload X0.here hx rfl (hb hby d7_10) rfl ?_
        show Steps p.tables e below (s₁.setTop (mkF m 12 #[.val (.ref oe), .val (.int (0 : Int32)), .val (.int (2 : Int32)), .val (.long qk), .second, .val (.int (2 : Int32)), .val (.int (1 : Int32)), .val (.int (1 : Int32)), .val (.long x1), .second] [(.int (1 : Int32)), (.int (2 : Int32))])) _
        refine XS.icmpYes X0.here hx rfl (pc0 := 12) (pc' := 68) rfl (hb hby d7_12) rfl (own_tlt (a := (1 : Int32)) (b := (2 : Int32)) (by decide) (by decide) hc12_9).2.2.1 (by decide) (by decide) ?_
        show Steps p.tables e below (s₁.setTop (mkF m 68 #[.val (.ref oe), .val (.int (0 : Int32)), .val (.int (2 : Int32)), .val (.long qk), .second, .val (.int (2 : Int32)), .val (.int (1 : Int32)), .val (.int (1 : Int32)), .val (.long x1), .second] [])) _
        refine XS.iload X0.here hx rfl (hb hby d7_68) rfl ?_
        show Steps p.tables e below (s₁.setTop (mkF m 70 #[.val (.ref oe), .val (.int (0 : Int32)), .val (.int (2 : Int32)), .val (.long qk), .second, .val (.int (2 : Int32)), .val (.int (1 : Int32)), .val (.int (1 : Int32)), .val (.long x1), .second] [(.int (2 : Int32))])) _
        refine XS.iconst X0.here hx rfl (hb hby d7_70) ?_
        show Steps p.tables e below (s₁.setTop (mkF m 71 #[.val (.ref oe), .val (.int (0 : Int32)), .val (.int (2 : Int32)), .val (.long qk), .second, .val (.int (2 : Int32)), .val (.int (1 : Int32)), .val (.int (1 : Int32)), .val (.long x1), .second] [(.int (1 : Int32)), (.int (2 : Int32))])) _
        refine XS.iadd X0.here hx rfl (hb hby d7_71) rfl ?_
        show Steps p.tables e below (s₁.setTop (mkF m 72 #[.val (.ref oe), .val (.int (0 : Int32)), .val (.int (2 : Int32)), .val (.long qk), .second, .val (.int (2 : Int32)), .val (.int (1 : Int32)), .val (.int (1 : Int32)), .val (.long x1), .second] [(.int (3 : Int32))])) _
        refine XS.ineg X0.here hx rfl (hb hby d7_72) rfl ?_
        show Steps p.tables e below (s₁.setTop (mkF m 73 #[.val (.ref oe), .val (.int (0 : Int32)), .val (.int (2 : Int32)), .val (.long qk), .second, .val (.int (2 : Int32)), .val (.int (1 : Int32)), .val (.int (1 : Int32)), .val (.long x1), .second] [(.int (-3 : Int32))])) _
        exact retI X0 hx Bd.returns (hb hby d7_73) hr
      · show Q_bz2 Z oe qk kE x0 x1 h0 n0 _ s₁.heap _
        rw [e0]
        exact ⟨_, rfl, Or.inr (Or.inr (Or.inr (Or.inr (⟨rfl, by omega⟩)))), N0, rfl⟩
    · have pre11 : ∀ t, Steps p.tables e below (s₁.setTop (mkF m 50 #[.val (.ref oe), .val (.int (0 : Int32)), .val (.int (2 : Int32)), .val (.long qk), .second, .val (.int (1 : Int32)), .val (.int (1 : Int32)), .val (.int (1 : Int32)), .val (.long x1), .second] [(.int (lcmpW x1 qk))])) t → Steps p.tables e below (s₁.setTop (entryFrame m #[(.ref oe), (.int (0 : Int32)), (.int (2 : Int32)), (.long qk)] 10)) t := fun t kt => by
        refine pre8 _ ?_
        show Steps p.tables e below (s₁.setTop (mkF m 34 #[.val (.ref oe), .val (.int (0 : Int32)), .val (.int (2 : Int32)), .val (.long qk), .second, .val (.int (1 : Int32)), .val (.int (1 : Int32)), .val (.int (1 : Int32)), .val (.long x1), .second] [(.int (lcmpW x1 qk))])) _
        refine XS.ifYes X0.here hx rfl (pc0 := 34) (pc' := 46) rfl (hb hby d7_34) rfl (own_if (own_fltL (x := x1) (y := qk) rfl rfl hc34_7).2) (by decide) (by decide) ?_
        show Steps p.tables e below (s₁.setTop (mkF m 46 #[.val (.ref oe), .val (.int (0 : Int32)), .val (.int (2 : Int32)), .val (.long qk), .second, .val (.int (1 : Int32)), .val (.int (1 : Int32)), .val (.int (1 : Int32)), .val (.long x1), .second] [])) _
        refine XS.lload X0.here hx rfl (hb hby d7_46) rfl ?_
        show Steps p.tables e below (s₁.setTop (mkF m 48 #[.val (.ref oe), .val (.int (0 : Int32)), .val (.int (2 : Int32)), .val (.long qk), .second, .val (.int (1 : Int32)), .val (.int (1 : Int32)), .val (.int (1 : Int32)), .val (.long x1), .second] [(.long x1)])) _
        refine XS.lloadN X0.here hx rfl (hb hby d7_48) rfl ?_
        show Steps p.tables e below (s₁.setTop (mkF m 49 #[.val (.ref oe), .val (.int (0 : Int32)), .val (.int (2 : Int32)), .val (.long qk), .second, .val (.int (1 : Int32)), .val (.int (1 : Int32)), .val (.int (1 : Int32)), .val (.long x1), .second] [(.long qk), (.long x1)])) _
        refine XS.lcmp X0.here hx rfl (hb hby d7_49) rfl ?_
        exact kt
      by_cases hc50_10 : qk.toInt < x1.toInt
      · have hc12_12 : (0 : Int) < (1 : Int) := by decide
        obtain ⟨fs, hr, hrun, hended, hW, hsame⟩ := X0.leave (v := some (.int (-2 : Int32))) (fun h => by rw [Bd.returns] at h; cases h)
        refine ⟨_, _, pre11 _ ?_, hrun, hended, _, _, rfl, ?_, ⟨_, rfl⟩, hW, hsame.mono (by decide) (by decide)⟩
        · show Steps p.tables e below (s₁.setTop (mkF m 50 #[.val (.ref oe), .val (.int (0 : Int32)), .val (.int (2 : Int32)), .val (.long qk), .second, .val (.int (1 : Int32)), .val (.int (1 : Int32)), .val (.int (1 : Int32)), .val (.long x1), .second] [(.int (lcmpW x1 qk))])) _
          refine XS.ifNo X0.here hx rfl (hb hby d7_50) rfl (own_if (own_tgtL (x := x1) (y := qk) rfl rfl hc50_10).2) ?_
          show Steps p.tables e below (s₁.setTop (mkF m 53 #[.val (.ref oe), .val (.int (0 : Int32)), .val (.int (2 : Int32)), .val (.long qk), .second, .val (.int (1 : Int32)), .val (.int (1 : Int32)), .val (.int (1 : Int32)), .val (.long x1), .second] [])) _
          refine XS.iload X0.here hx rfl (hb hby d7_53) rfl ?_
          show Steps p.tables e below (s₁.setTop (mkF m 55 #[.val (.ref oe), .val (.int (0 : Int32)), .val (.int (2 : Int32)), .val (.long qk), .second, .val (.int (1 : Int32)), .val (.int (1 : Int32)), .val (.int (1 : Int32)), .val (.long x1), .second] [(.int (1 : Int32))])) _
          refine XS.iconst X0.here hx rfl (hb hby d7_55) ?_
          show Steps p.tables e below (s₁.setTop (mkF m 56 #[.val (.ref oe), .val (.int (0 : Int32)), .val (.int (2 : Int32)), .val (.long qk), .second, .val (.int (1 : Int32)), .val (.int (1 : Int32)), .val (.int (1 : Int32)), .val (.long x1), .second] [(.int (1 : Int32)), (.int (1 : Int32))])) _
          refine XS.isub X0.here hx rfl (hb hby d7_56) rfl ?_
          show Steps p.tables e below (s₁.setTop (mkF m 57 #[.val (.ref oe), .val (.int (0 : Int32)), .val (.int (2 : Int32)), .val (.long qk), .second, .val (.int (1 : Int32)), .val (.int (1 : Int32)), .val (.int (1 : Int32)), .val (.long x1), .second] [(.int (0 : Int32))])) _
          refine XS.istore X0.here hx rfl (hb hby d7_57) rfl (l' := #[.val (.ref oe), .val (.int (0 : Int32)), .val (.int (2 : Int32)), .val (.long qk), .second, .val (.int (1 : Int32)), .val (.int (0 : Int32)), .val (.int (1 : Int32)), .val (.long x1), .second]) rfl ?_
          show Steps p.tables e below (s₁.setTop (mkF m 59 #[.val (.ref oe), .val (.int (0 : Int32)), .val (.int (2 : Int32)), .val (.long qk), .second, .val (.int (1 : Int32)), .val (.int (0 : Int32)), .val (.int (1 : Int32)), .val (.long x1), .second] [])) _
          refine XS.goto X0.here hx rfl (pc0 := 59) (pc' := 65) rfl (hb hby d7_59) (by decide) (by decide) ?_
          show Steps p.tables e below (s₁.setTop (mkF m 65 #[.val (.ref oe), .val (.int (0 : Int32)), .val (.int (2 : Int32)), .val (.long qk), .second, .val (.int (1 : Int32)), .val (.int (0 : Int32)), .val (.int (1 : Int32)), .val (.long x1), .second] [])) _
          refine XS.goto X0.here hx rfl (pc0 := 65) (pc' := 8) rfl (hb hby d7_65) (by decide) (by decide) ?_
          show Steps p.tables e below (s₁.setTop (mkF m 8 #[.val (.ref oe), .val (.int (0 : Int32)), .val (.int (2 : Int32)), .val (.long qk), .second, .val (.int (1 : Int32)), .val (.int (0 : Int32)), .val (.int (1 : Int32)), .val (.long x1), .second] [])) _
          refine XS.iload X0.here hx rfl (hb hby d7_8) rfl ?_
          show Steps p.tables e below (s₁.setTop (mkF m 10 #[.val (.ref oe), .val (.int (0 : Int32)), .val (.int (2 : Int32)), .val (.long qk), .second, .val (.int (1 : Int32)), .val (.int (0 : Int32)), .val (.int (1 : Int32)), .val (.long x1), .second] [(.int (1 : Int32))])) _
          refine XS.iload X0.here hx rfl (hb hby d7_10) rfl ?_
          show Steps p.tables e below (s₁.setTop (mkF m 12 #[.val (.ref oe), .val (.int (0 : Int32)), .val (.int (2 : Int32)), .val (.long qk), .second, .val (.int (1 : Int32)), .val (.int (0 : Int32)), .val (.int (1 : Int32)), .val (.long x1), .second] [(.int (0 : Int32)), (.int (1 : Int32))])) _
          refine XS.icmpYes X0.here hx rfl (pc0 := 12) (pc' := 68) rfl (hb hby d7_12) rfl (own_tlt (a := (0 : Int32)) (b := (1 : Int32)) (by decide) (by decide) hc12_12).2.2.1 (by decide) (by decide) ?_
          show Steps p.tables e below (s₁.setTop (mkF m 68 #[.val (.ref oe), .val (.int (0 : Int32)), .val (.int (2 : Int32)), .val (.long qk), .second, .val (.int (1 : Int32)), .val (.int (0 : Int32)), .val (.int (1 : Int32)), .val (.long x1), .second] [])) _
          refine XS.iload X0.here hx rfl (hb hby d7_68) rfl ?_
          show Steps p.tables e below (s₁.setTop (mkF m 70 #[.val (.ref oe), .val (.int (0 : Int32)), .val (.int (2 : Int32)), .val (.long qk), .second, .val (.int (1 : Int32)), .val (.int (0 : Int32)), .val (.int (1 : Int32)), .val (.long x1), .second] [(.int (1 : Int32))])) _
          refine XS.iconst X0.here hx rfl (hb hby d7_70) ?_
          show Steps p.tables e below (s₁.setTop (mkF m 71 #[.val (.ref oe), .val (.int (0 : Int32)), .val (.int (2 : Int32)), .val (.long qk), .second, .val (.int (1 : Int32)), .val (.int (0 : Int32)), .val (.int (1 : Int32)), .val (.long x1), .second] [(.int (1 : Int32)), (.int (1 : Int32))])) _
          refine XS.iadd X0.here hx rfl (hb hby d7_71) rfl ?_
          show Steps p.tables e below (s₁.setTop (mkF m 72 #[.val (.ref oe), .val (.int (0 : Int32)), .val (.int (2 : Int32)), .val (.long qk), .second, .val (.int (1 : Int32)), .val (.int (0 : Int32)), .val (.int (1 : Int32)), .val (.long x1), .second] [(.int (2 : Int32))])) _
          refine XS.ineg X0.here hx rfl (hb hby d7_72) rfl ?_
          show Steps p.tables e below (s₁.setTop (mkF m 73 #[.val (.ref oe), .val (.int (0 : Int32)), .val (.int (2 : Int32)), .val (.long qk), .second, .val (.int (1 : Int32)), .val (.int (0 : Int32)), .val (.int (1 : Int32)), .val (.long x1), .second] [(.int (-2 : Int32))])) _
          exact retI X0 hx Bd.returns (hb hby d7_73) hr
        · show Q_bz2 Z oe qk kE x0 x1 h0 n0 _ s₁.heap _
          rw [e0]
          exact ⟨_, rfl, Or.inr (Or.inr (Or.inr (Or.inl ⟨rfl, by omega, by omega⟩))), N0, rfl⟩
      · obtain ⟨fs, hr, hrun, hended, hW, hsame⟩ := X0.leave (v := some (.int (1 : Int32))) (fun h => by rw [Bd.returns] at h; cases h)
        refine ⟨_, _, pre11 _ ?_, hrun, hended, _, _, rfl, ?_, ⟨_, rfl⟩, hW, hsame.mono (by decide) (by decide)⟩
        · show Steps p.tables e below (s₁.setTop (mkF m 50 #[.val (.ref oe), .val (.int (0 : Int32)), .val (.int (2 : Int32)), .val (.long qk), .second, .val (.int (1 : Int32)), .val (.int (1 : Int32)), .val (.int (1 : Int32)), .val (.long x1), .second] [(.int (lcmpW x1 qk))])) _
          refine XS.ifYes X0.here hx rfl (pc0 := 50) (pc' := 62) rfl (hb hby d7_50) rfl (own_if (own_fgtL (x := x1) (y := qk) rfl rfl hc50_10).2) (by decide) (by decide) ?_
          show Steps p.tables e below (s₁.setTop (mkF m 62 #[.val (.ref oe), .val (.int (0 : Int32)), .val (.int (2 : Int32)), .val (.long qk), .second, .val (.int (1 : Int32)), .val (.int (1 : Int32)), .val (.int (1 : Int32)), .val (.long x1), .second] [])) _
          refine XS.iload X0.here hx rfl (hb hby d7_62) rfl ?_
          show Steps p.tables e below (s₁.setTop (mkF m 64 #[.val (.ref oe), .val (.int (0 : Int32)), .val (.int (2 : Int32)), .val (.long qk), .second, .val (.int (1 : Int32)), .val (.int (1 : Int32)), .val (.int (1 : Int32)), .val (.long x1), .second] [(.int (1 : Int32))])) _
          exact retI X0 hx Bd.returns (hb hby d7_64) hr
        · show Q_bz2 Z oe qk kE x0 x1 h0 n0 _ s₁.heap _
          rw [e0]
          exact ⟨_, rfl, Or.inr (Or.inl ⟨rfl, by omega⟩), N0, rfl⟩
  · have pre14 : ∀ t, Steps p.tables e below (s₁.setTop (mkF m 50 #[.val (.ref oe), .val (.int (0 : Int32)), .val (.int (2 : Int32)), .val (.long qk), .second, .val (.int (0 : Int32)), .val (.int (1 : Int32)), .val (.int (0 : Int32)), .val (.long x0), .second] [(.int (lcmpW x0 qk))])) t → Steps p.tables e below (s₁.setTop (entryFrame m #[(.ref oe), (.int (0 : Int32)), (.int (2 : Int32)), (.long qk)] 10)) t := fun t kt => by
      refine pre4 _ ?_
      show Steps p.tables e below (s₁.setTop (mkF m 34 #[.val (.ref oe), .val (.int (0 : Int32)), .val (.int (2 : Int32)), .val (.long qk), .second, .val (.int (0 : Int32)), .val (.int (1 : Int32)), .val (.int (0 : Int32)), .val (.long x0), .second] [(.int (lcmpW x0 qk))])) _
      refine XS.ifYes X0.here hx rfl (pc0 := 34) (pc' := 46) rfl (hb hby d7_34) rfl (own_if (own_fltL (x := x0) (y := qk) rfl rfl hc34_3).2) (by decide) (by decide) ?_
      show Steps p.tables e below (s₁.setTop (mkF m 46 #[.val (.ref oe), .val (.int (0 : Int32)), .val (.int (2 : Int32)), .val (.long qk), .second, .val (.int (0 : Int32)), .val (.int (1 : Int32)), .val (.int (0 : Int32)), .val (.long x0), .second] [])) _
      refine XS.lload X0.here hx rfl (hb hby d7_46) rfl ?_
      show Steps p.tables e below (s₁.setTop (mkF m 48 #[.val (.ref oe), .val (.int (0 : Int32)), .val (.int (2 : Int32)), .val (.long qk), .second, .val (.int (0 : Int32)), .val (.int (1 : Int32)), .val (.int (0 : Int32)), .val (.long x0), .second] [(.long x0)])) _
      refine XS.lloadN X0.here hx rfl (hb hby d7_48) rfl ?_
      show Steps p.tables e below (s₁.setTop (mkF m 49 #[.val (.ref oe), .val (.int (0 : Int32)), .val (.int (2 : Int32)), .val (.long qk), .second, .val (.int (0 : Int32)), .val (.int (1 : Int32)), .val (.int (0 : Int32)), .val (.long x0), .second] [(.long qk), (.long x0)])) _
      refine XS.lcmp X0.here hx rfl (hb hby d7_49) rfl ?_
      exact kt
    by_cases hc50_13 : qk.toInt < x0.toInt
    · have hc12_15 : (-1 : Int) < (0 : Int) := by decide
      obtain ⟨fs, hr, hrun, hended, hW, hsame⟩ := X0.leave (v := some (.int (-1 : Int32))) (fun h => by rw [Bd.returns] at h; cases h)
      refine ⟨_, _, pre14 _ ?_, hrun, hended, _, _, rfl, ?_, ⟨_, rfl⟩, hW, hsame.mono (by decide) (by decide)⟩
      · show Steps p.tables e below (s₁.setTop (mkF m 50 #[.val (.ref oe), .val (.int (0 : Int32)), .val (.int (2 : Int32)), .val (.long qk), .second, .val (.int (0 : Int32)), .val (.int (1 : Int32)), .val (.int (0 : Int32)), .val (.long x0), .second] [(.int (lcmpW x0 qk))])) _
        refine XS.ifNo X0.here hx rfl (hb hby d7_50) rfl (own_if (own_tgtL (x := x0) (y := qk) rfl rfl hc50_13).2) ?_
        show Steps p.tables e below (s₁.setTop (mkF m 53 #[.val (.ref oe), .val (.int (0 : Int32)), .val (.int (2 : Int32)), .val (.long qk), .second, .val (.int (0 : Int32)), .val (.int (1 : Int32)), .val (.int (0 : Int32)), .val (.long x0), .second] [])) _
        refine XS.iload X0.here hx rfl (hb hby d7_53) rfl ?_
        show Steps p.tables e below (s₁.setTop (mkF m 55 #[.val (.ref oe), .val (.int (0 : Int32)), .val (.int (2 : Int32)), .val (.long qk), .second, .val (.int (0 : Int32)), .val (.int (1 : Int32)), .val (.int (0 : Int32)), .val (.long x0), .second] [(.int (0 : Int32))])) _
        refine XS.iconst X0.here hx rfl (hb hby d7_55) ?_
        show Steps p.tables e below (s₁.setTop (mkF m 56 #[.val (.ref oe), .val (.int (0 : Int32)), .val (.int (2 : Int32)), .val (.long qk), .second, .val (.int (0 : Int32)), .val (.int (1 : Int32)), .val (.int (0 : Int32)), .val (.long x0), .second] [(.int (1 : Int32)), (.int (0 : Int32))])) _
        refine XS.isub X0.here hx rfl (hb hby d7_56) rfl ?_
        show Steps p.tables e below (s₁.setTop (mkF m 57 #[.val (.ref oe), .val (.int (0 : Int32)), .val (.int (2 : Int32)), .val (.long qk), .second, .val (.int (0 : Int32)), .val (.int (1 : Int32)), .val (.int (0 : Int32)), .val (.long x0), .second] [(.int (-1 : Int32))])) _
        refine XS.istore X0.here hx rfl (hb hby d7_57) rfl (l' := #[.val (.ref oe), .val (.int (0 : Int32)), .val (.int (2 : Int32)), .val (.long qk), .second, .val (.int (0 : Int32)), .val (.int (-1 : Int32)), .val (.int (0 : Int32)), .val (.long x0), .second]) rfl ?_
        show Steps p.tables e below (s₁.setTop (mkF m 59 #[.val (.ref oe), .val (.int (0 : Int32)), .val (.int (2 : Int32)), .val (.long qk), .second, .val (.int (0 : Int32)), .val (.int (-1 : Int32)), .val (.int (0 : Int32)), .val (.long x0), .second] [])) _
        refine XS.goto X0.here hx rfl (pc0 := 59) (pc' := 65) rfl (hb hby d7_59) (by decide) (by decide) ?_
        show Steps p.tables e below (s₁.setTop (mkF m 65 #[.val (.ref oe), .val (.int (0 : Int32)), .val (.int (2 : Int32)), .val (.long qk), .second, .val (.int (0 : Int32)), .val (.int (-1 : Int32)), .val (.int (0 : Int32)), .val (.long x0), .second] [])) _
        refine XS.goto X0.here hx rfl (pc0 := 65) (pc' := 8) rfl (hb hby d7_65) (by decide) (by decide) ?_
        show Steps p.tables e below (s₁.setTop (mkF m 8 #[.val (.ref oe), .val (.int (0 : Int32)), .val (.int (2 : Int32)), .val (.long qk), .second, .val (.int (0 : Int32)), .val (.int (-1 : Int32)), .val (.int (0 : Int32)), .val (.long x0), .second] [])) _
        refine XS.iload X0.here hx rfl (hb hby d7_8) rfl ?_
        show Steps p.tables e below (s₁.setTop (mkF m 10 #[.val (.ref oe), .val (.int (0 : Int32)), .val (.int (2 : Int32)), .val (.long qk), .second, .val (.int (0 : Int32)), .val (.int (-1 : Int32)), .val (.int (0 : Int32)), .val (.long x0), .second] [(.int (0 : Int32))])) _
        refine XS.iload X0.here hx rfl (hb hby d7_10) rfl ?_
        show Steps p.tables e below (s₁.setTop (mkF m 12 #[.val (.ref oe), .val (.int (0 : Int32)), .val (.int (2 : Int32)), .val (.long qk), .second, .val (.int (0 : Int32)), .val (.int (-1 : Int32)), .val (.int (0 : Int32)), .val (.long x0), .second] [(.int (-1 : Int32)), (.int (0 : Int32))])) _
        refine XS.icmpYes X0.here hx rfl (pc0 := 12) (pc' := 68) rfl (hb hby d7_12) rfl (own_tlt (a := (-1 : Int32)) (b := (0 : Int32)) (by decide) (by decide) hc12_15).2.2.1 (by decide) (by decide) ?_
        show Steps p.tables e below (s₁.setTop (mkF m 68 #[.val (.ref oe), .val (.int (0 : Int32)), .val (.int (2 : Int32)), .val (.long qk), .second, .val (.int (0 : Int32)), .val (.int (-1 : Int32)), .val (.int (0 : Int32)), .val (.long x0), .second] [])) _
        refine XS.iload X0.here hx rfl (hb hby d7_68) rfl ?_
        show Steps p.tables e below (s₁.setTop (mkF m 70 #[.val (.ref oe), .val (.int (0 : Int32)), .val (.int (2 : Int32)), .val (.long qk), .second, .val (.int (0 : Int32)), .val (.int (-1 : Int32)), .val (.int (0 : Int32)), .val (.long x0), .second] [(.int (0 : Int32))])) _
        refine XS.iconst X0.here hx rfl (hb hby d7_70) ?_
        show Steps p.tables e below (s₁.setTop (mkF m 71 #[.val (.ref oe), .val (.int (0 : Int32)), .val (.int (2 : Int32)), .val (.long qk), .second, .val (.int (0 : Int32)), .val (.int (-1 : Int32)), .val (.int (0 : Int32)), .val (.long x0), .second] [(.int (1 : Int32)), (.int (0 : Int32))])) _
        refine XS.iadd X0.here hx rfl (hb hby d7_71) rfl ?_
        show Steps p.tables e below (s₁.setTop (mkF m 72 #[.val (.ref oe), .val (.int (0 : Int32)), .val (.int (2 : Int32)), .val (.long qk), .second, .val (.int (0 : Int32)), .val (.int (-1 : Int32)), .val (.int (0 : Int32)), .val (.long x0), .second] [(.int (1 : Int32))])) _
        refine XS.ineg X0.here hx rfl (hb hby d7_72) rfl ?_
        show Steps p.tables e below (s₁.setTop (mkF m 73 #[.val (.ref oe), .val (.int (0 : Int32)), .val (.int (2 : Int32)), .val (.long qk), .second, .val (.int (0 : Int32)), .val (.int (-1 : Int32)), .val (.int (0 : Int32)), .val (.long x0), .second] [(.int (-1 : Int32))])) _
        exact retI X0 hx Bd.returns (hb hby d7_73) hr
      · show Q_bz2 Z oe qk kE x0 x1 h0 n0 _ s₁.heap _
        rw [e0]
        exact ⟨_, rfl, Or.inr (Or.inr (Or.inl ⟨rfl, by omega⟩)), N0, rfl⟩
    · obtain ⟨fs, hr, hrun, hended, hW, hsame⟩ := X0.leave (v := some (.int (0 : Int32))) (fun h => by rw [Bd.returns] at h; cases h)
      refine ⟨_, _, pre14 _ ?_, hrun, hended, _, _, rfl, ?_, ⟨_, rfl⟩, hW, hsame.mono (by decide) (by decide)⟩
      · show Steps p.tables e below (s₁.setTop (mkF m 50 #[.val (.ref oe), .val (.int (0 : Int32)), .val (.int (2 : Int32)), .val (.long qk), .second, .val (.int (0 : Int32)), .val (.int (1 : Int32)), .val (.int (0 : Int32)), .val (.long x0), .second] [(.int (lcmpW x0 qk))])) _
        refine XS.ifYes X0.here hx rfl (pc0 := 50) (pc' := 62) rfl (hb hby d7_50) rfl (own_if (own_fgtL (x := x0) (y := qk) rfl rfl hc50_13).2) (by decide) (by decide) ?_
        show Steps p.tables e below (s₁.setTop (mkF m 62 #[.val (.ref oe), .val (.int (0 : Int32)), .val (.int (2 : Int32)), .val (.long qk), .second, .val (.int (0 : Int32)), .val (.int (1 : Int32)), .val (.int (0 : Int32)), .val (.long x0), .second] [])) _
        refine XS.iload X0.here hx rfl (hb hby d7_62) rfl ?_
        show Steps p.tables e below (s₁.setTop (mkF m 64 #[.val (.ref oe), .val (.int (0 : Int32)), .val (.int (2 : Int32)), .val (.long qk), .second, .val (.int (0 : Int32)), .val (.int (1 : Int32)), .val (.int (0 : Int32)), .val (.long x0), .second] [(.int (0 : Int32))])) _
        exact retI X0 hx Bd.returns (hb hby d7_64) hr
      · show Q_bz2 Z oe qk kE x0 x1 h0 n0 _ s₁.heap _
        rw [e0]
        exact ⟨_, rfl, Or.inl ⟨rfl, by omega⟩, N0, rfl⟩
theorem ef_rm_bs2 (m : MethodId) (x0 : Addr) (x3 : Int64) : entryFrame m #[(.ref x0), (.int (0 : Int32)), (.int (2 : Int32)), (.long x3)] 5 = mkF m 0 #[.val (.ref x0), .val (.int (0 : Int32)), .val (.int (2 : Int32)), .val (.long x3), .second] [] := by first | (simp [entryFrame, mkF, argsToLocals, Value.category]; done) | rfl
def Q_bs2 (Z : State) (oe : Addr) (qk : Int64) (kE : ClassId) (x0 : Int64) (x1 : Int64) (h0 : Heap) (n0 : Nat) (v : Option Value) (h : Heap) (L : List Loc) : Prop := ∃ z : Int32, v = some (.int z) ∧ ((z = (0 : Int32) ∧ x0.toInt = qk.toInt) ∨ (z = (1 : Int32) ∧ x1.toInt = qk.toInt) ∨ (z = (-1 : Int32) ∧ qk.toInt < x0.toInt) ∨ (z = (-2 : Int32) ∧ x0.toInt < qk.toInt ∧ qk.toInt < x1.toInt) ∨ (z = (-3 : Int32) ∧ x1.toInt < qk.toInt)) ∧ Fr n0 L ∧ h = h0
set_option maxRecDepth 65536 in
set_option maxHeartbeats 40000000 in
theorem rm_bs2 (l : Launch) (Z : State) (a0 : Array Value) (hw : ∀ d ∈ tables_1, d.before a0 Z = true) (ws : List Jvm.Cond) (oe : Addr) (qk : Int64) (kE : ClassId) (x0 : Int64) (x1 : Int64) (h0 : Heap) (n0 : Nat) (Z0 : n0 ≤ h0.size) (Ve : Arv Z h0 oe kE .long (16 : Int32) [(.long x0), (.long x1), (.long (0 : Int64)), (.long (0 : Int64))] (.long (0 : Int64))) (os0 : x0.toInt < x1.toInt) :
    MetFree l (⟨"java/util/Arrays", "binarySearch", "([JIIJ)I"⟩ : MethodName) (head1 (Jvm.Cond.code (⟨"java/util/Arrays", "binarySearch", "([JIIJ)I"⟩ : MethodName) jdk_65_method_55_code 5 (some .int) :: ws) ({ frames := 1, cells := 0, slots := 0, locals := 21 } : Room)) (fun a U => a = #[(.ref oe), (.int (0 : Int32)), (.int (2 : Int32)), (.long qk)] ∧ Z.Warmed39 U.vm ∧ U.heap = h0) (fun _ _ _ _ _ => True) (fun _ U o U' => ∃ v L, o = .returned v ∧ Q_bs2 Z oe qk kE x0 x1 h0 n0 v U'.heap L ∧ FrameEnd U o U' L ({ frames := 1, cells := 0, slots := 0, locals := 21 } : Room).cells ({ frames := 1, cells := 0, slots := 0, locals := 21 } : Room).slots) := by
  refine MetFree.of_bodySF (plainFor_of_name pn_0) hisR ?_
  intro p e s m args below meth c s₁ Bd hml0 hP hK
  obtain ⟨rfl, hZ, hh⟩ := hP
  have hx := Bd.exec
  have hby := Bd.bytes
  have hml : c.maxLocals = 5 := hml0
  have hown : s.vm.findClass "java/util/Arrays" = some m.cls := findClass_of_methodNamed Bd.named
  have hnm := (name_of_methodNamed Bd.named Bd.method).1
  have X0 : Stand p l e ({ frames := 1, cells := 0, slots := 0, locals := 21 } : Room) s m #[(.ref oe), (.int (0 : Int32)), (.int (2 : Int32)), (.long qk)] below meth c s₁ [] 0 0 := Stand.of_body Bd
  have e0 : s₁.heap = h0 := by rw [← hh, Bd.state]; rfl
  have N0 := Fr.nil n0
  have pre0 : ∀ t, Steps p.tables e below (s₁.setTop (mkF m 0 #[.val (.ref oe), .val (.int (0 : Int32)), .val (.int (2 : Int32)), .val (.long qk), .second] [])) t → Steps p.tables e below (s₁.setTop (entryFrame m #[(.ref oe), (.int (0 : Int32)), (.int (2 : Int32)), (.long qk)] 5)) t := fun t k => castTop (ef_rm_bs2 m oe qk) k
  obtain ⟨cl1, Ar1, q1, S1, M1, H1, G1⟩ := id Ve
  obtain ⟨_, _, ⟨T2, L2, k2, n2⟩, -, X2, ⟨Lc2, hQ2, l2, y2, z2⟩, st2⟩ := Jvm.LawKit.callS X0 hx (y := (⟨"java/util/Arrays", "rangeCheck", "(III)V"⟩ : MethodName)) hown (mvT hZ (hw _ (List.mem_of_getElem? (i := 30) rfl))) (mvT hZ (hw _ (List.mem_of_getElem? (i := 31) rfl))) (mvT hZ (hw _ (List.mem_of_getElem? (i := 28) rfl))) (mvT hZ (hw _ (List.mem_of_getElem? (i := 32) rfl))) (by decide) (backOf (W := 0) (rm6 l Z a0 hw [] (16 : Int32) (0 : Int32) (2 : Int32) h0 n0 Z0 (by decide) (by decide) (by decide)) hZ (hw _ (List.mem_of_getElem? (i := 32) rfl)) (hw _ (List.mem_of_getElem? (i := 28) rfl)) (by decide) (by decide)) (g := (mkF m 4 #[.val (.ref oe), .val (.int (0 : Int32)), .val (.int (2 : Int32)), .val (.long qk), .second] [(.int (2 : Int32)), (.int (0 : Int32)), (.int (16 : Int32))])) rfl (by rw [hml]; rfl) (argsL := [(.int (16 : Int32)), (.int (0 : Int32)), (.int (2 : Int32))]) (rest := []) (lenOf pd_0 rfl) rfl (by show 2 * 0 + _ ≤ _; exact Nat.le_of_eq rfl) (hb hby d5_4) (fun _ _ => ⟨rfl, e0, (by decide : 0 + 0 ≤ _), (by decide : 0 + 0 ≤ _)⟩)
  dsimp only [Pt.U, Pt.locs, Pt.cells, Pt.slots] at X2 l2 y2 z2 st2 hQ2
  subst l2 y2 z2
  obtain ⟨rfl, N2q, e2⟩ := hQ2
  have N2 := Fr.app N0 N2q
  obtain ⟨_, _, ⟨T3, L3, k3, n3⟩, -, X3, ⟨Lc3, hQ3, l3, y3, z3⟩, st3⟩ := Jvm.LawKit.callS X2 hx (y := (⟨"java/util/Arrays", "binarySearch0", "([JIIJ)I"⟩ : MethodName)) hown (mvT hZ (hw _ (List.mem_of_getElem? (i := 33) rfl))) (mvT hZ (hw _ (List.mem_of_getElem? (i := 34) rfl))) (mvT hZ (hw _ (List.mem_of_getElem? (i := 28) rfl))) (mvT hZ (hw _ (List.mem_of_getElem? (i := 35) rfl))) (by decide) (backOf (W := 0) (rm_bz2 l Z a0 hw [] oe qk kE x0 x1 h0 n0 Z0 Ve os0) hZ (hw _ (List.mem_of_getElem? (i := 35) rfl)) (hw _ (List.mem_of_getElem? (i := 28) rfl)) (by decide) (by decide)) (g := (mkF m 11 #[.val (.ref oe), .val (.int (0 : Int32)), .val (.int (2 : Int32)), .val (.long qk), .second] [(.long qk), (.int (2 : Int32)), (.int (0 : Int32)), (.ref oe)])) rfl (by rw [hml]; rfl) (argsL := [(.ref oe), (.int (0 : Int32)), (.int (2 : Int32)), (.long qk)]) (rest := []) (lenOf pd_1 rfl) rfl (by show 2 * 0 + _ ≤ _; exact Nat.le_of_eq rfl) (hb hby d5_11) (fun _ _ => ⟨rfl, e2, (by decide : 0 + 0 ≤ _), (by decide : 0 + 0 ≤ _)⟩)
  dsimp only [Pt.U, Pt.locs, Pt.cells, Pt.slots] at X3 l3 y3 z3 st3 hQ3
  subst l3 y3 z3
  obtain ⟨rb, rfl, hrb, N3q, e3⟩ := hQ3
  have N3 := Fr.app N2 N3q
  obtain ⟨fs, hr, hrun, hended, hW, hsame⟩ := X3.leave (v := some (.int rb)) (fun h => by rw [Bd.returns] at h; cases h)
  refine ⟨_, _, pre0 _ ?_, hrun, hended, _, _, rfl, ?_, ⟨_, rfl⟩, hW, hsame.mono (by decide) (by decide)⟩
  · show Steps p.tables e below (s₁.setTop (mkF m 0 #[.val (.ref oe), .val (.int (0 : Int32)), .val (.int (2 : Int32)), .val (.long qk), .second] [])) _
    refine XS.aloadN X0.here hx rfl (hb hby d5_0) rfl rfl ?_
    show Steps p.tables e below (s₁.setTop (mkF m 1 #[.val (.ref oe), .val (.int (0 : Int32)), .val (.int (2 : Int32)), .val (.long qk), .second] [(.ref oe)])) _
    refine X0.arraylength hx (by rw [e0]; exact Ar1.1) (State.isArrayOf_alike hZ.alike Ar1.2.1) (g := (mkF m 1 #[.val (.ref oe), .val (.int (0 : Int32)), .val (.int (2 : Int32)), .val (.long qk), .second] [(.ref oe)])) rfl rfl (hb hby d5_1) _ ?_
    rw [len_of S1 M1]
    show Steps p.tables e below (s₁.setTop (mkF m 2 #[.val (.ref oe), .val (.int (0 : Int32)), .val (.int (2 : Int32)), .val (.long qk), .second] [(.int (16 : Int32))])) _
    refine XS.iloadN X0.here hx rfl (hb hby d5_2) rfl ?_
    show Steps p.tables e below (s₁.setTop (mkF m 3 #[.val (.ref oe), .val (.int (0 : Int32)), .val (.int (2 : Int32)), .val (.long qk), .second] [(.int (0 : Int32)), (.int (16 : Int32))])) _
    refine XS.iloadN X0.here hx rfl (hb hby d5_3) rfl ?_
    show Steps p.tables e below (s₁.setTop (mkF m 4 #[.val (.ref oe), .val (.int (0 : Int32)), .val (.int (2 : Int32)), .val (.long qk), .second] [(.int (2 : Int32)), (.int (0 : Int32)), (.int (16 : Int32))])) _
    refine st2 _ ?_
    show Steps p.tables e below (T2.setTop (mkF m 7 #[.val (.ref oe), .val (.int (0 : Int32)), .val (.int (2 : Int32)), .val (.long qk), .second] [])) _
    refine XS.aloadN X2.here hx rfl (hb hby d5_7) rfl rfl ?_
    show Steps p.tables e below (T2.setTop (mkF m 8 #[.val (.ref oe), .val (.int (0 : Int32)), .val (.int (2 : Int32)), .val (.long qk), .second] [(.ref oe)])) _
    refine XS.iloadN X2.here hx rfl (hb hby d5_8) rfl ?_
    show Steps p.tables e below (T2.setTop (mkF m 9 #[.val (.ref oe), .val (.int (0 : Int32)), .val (.int (2 : Int32)), .val (.long qk), .second] [(.int (0 : Int32)), (.ref oe)])) _
    refine XS.iloadN X2.here hx rfl (hb hby d5_9) rfl ?_
    show Steps p.tables e below (T2.setTop (mkF m 10 #[.val (.ref oe), .val (.int (0 : Int32)), .val (.int (2 : Int32)), .val (.long qk), .second] [(.int (2 : Int32)), (.int (0 : Int32)), (.ref oe)])) _
    refine XS.lloadN X2.here hx rfl (hb hby d5_10) rfl ?_
    show Steps p.tables e below (T2.setTop (mkF m 11 #[.val (.ref oe), .val (.int (0 : Int32)), .val (.int (2 : Int32)), .val (.long qk), .second] [(.long qk), (.int (2 : Int32)), (.int (0 : Int32)), (.ref oe)])) _
    refine st3 _ ?_
    show Steps p.tables e below (T3.setTop (mkF m 14 #[.val (.ref oe), .val (.int (0 : Int32)), .val (.int (2 : Int32)), .val (.long qk), .second] [(.int rb)])) _
    exact retI X3 hx Bd.returns (hb hby d5_14) hr
  · show Q_bs2 Z oe qk kE x0 x1 h0 n0 _ T3.heap _
    rw [e3]
    exact ⟨_, rfl, hrb, N3, rfl⟩
theorem d1_0 : decode prog_20_method_1_code 0 = .ok (.aload_n 0, 1) := by decide +kernel
theorem d1_1 : decode prog_20_method_1_code 1 = .ok (.invokespecial 1, 3) := by decide +kernel
theorem d1_4 : decode prog_20_method_1_code 4 = .ok (.aload_n 0, 1) := by decide +kernel
theorem d1_5 : decode prog_20_method_1_code 5 = .ok (.bipush 16, 2) := by decide +kernel
theorem d1_7 : decode prog_20_method_1_code 7 = .ok (.newarray .long, 2) := by decide +kernel
theorem d1_9 : decode prog_20_method_1_code 9 = .ok (.putfield 9, 3) := by decide +kernel
theorem d1_12 : decode prog_20_method_1_code 12 = .ok (.aload_n 0, 1) := by decide +kernel
theorem d1_13 : decode prog_20_method_1_code 13 = .ok (.bipush 16, 2) := by decide +kernel
theorem d1_15 : decode prog_20_method_1_code 15 = .ok (.newarray .long, 2) := by decide +kernel
theorem d1_17 : decode prog_20_method_1_code 17 = .ok (.putfield 13, 3) := by decide +kernel
theorem d1_20 : decode prog_20_method_1_code 20 = .ok (.return_, 1) := by decide +kernel
theorem pn_1 : plainName "com/example/foreslot/foreslot/CountsByEnd" = true := by first | (simp [plainName, overriddenIn]; done) | decide +kernel
theorem ef_rm1 (m : MethodId) (x0 : Addr) : entryFrame m #[(.ref x0)] 1 = mkF m 0 #[.val (.ref x0)] [] := by first | (simp [entryFrame, mkF, argsToLocals, Value.category]; done) | rfl
def Q1 (Z : State) (oa : Addr) (h0 : Heap) (n0 : Nat) (v : Option Value) (h : Heap) (L : List Loc) : Prop := v = none ∧ Fr n0 L ∧ Keep h0 h [oa] ∧ Exa Z h oa "com/example/foreslot/foreslot/CountsByEnd" ∧ ∃ (ea ca : Addr) (kE kC : ClassId), n0 ≤ ea ∧ n0 ≤ ca ∧ oa ≠ ea ∧ oa ≠ ca ∧ ea ≠ ca ∧ h0.size ≤ ea ∧ h0.size ≤ ca ∧ Fld Z h oa "com/example/foreslot/foreslot/CountsByEnd" "ends" "[J" (.ref ea) ∧ Fld Z h oa "com/example/foreslot/foreslot/CountsByEnd" "counts" "[J" (.ref ca) ∧ Fld Z h oa "com/example/foreslot/foreslot/CountsByEnd" "size" "I" (.int (0 : Int32)) ∧ Arv Z h ea kE .long (16 : Int32) [(.long (0 : Int64)), (.long (0 : Int64)), (.long (0 : Int64)), (.long (0 : Int64))] (.long (0 : Int64)) ∧ Arv Z h ca kC .long (16 : Int32) [(.long (0 : Int64)), (.long (0 : Int64)), (.long (0 : Int64)), (.long (0 : Int64))] (.long (0 : Int64))
set_option maxRecDepth 65536 in
set_option maxHeartbeats 40000000 in
theorem rm1 (l : Launch) (Z : State) (a0 : Array Value) (hw : ∀ d ∈ tables_1, d.before a0 Z = true) (ws : List Jvm.Cond) (oa : Addr) (h0 : Heap) (n0 : Nat) (Z0 : n0 ≤ h0.size) (Ea : Exa Z h0 oa "com/example/foreslot/foreslot/CountsByEnd") (F0 : Fld Z h0 oa "com/example/foreslot/foreslot/CountsByEnd" "ends" "[J" .null) (F1 : Fld Z h0 oa "com/example/foreslot/foreslot/CountsByEnd" "counts" "[J" .null) (F2 : Fld Z h0 oa "com/example/foreslot/foreslot/CountsByEnd" "size" "I" (.int (0 : Int32))) (ga : n0 ≤ oa) :
    MetFree l (⟨"com/example/foreslot/foreslot/CountsByEnd", "<init>", "()V"⟩ : MethodName) (head1 (Jvm.Cond.code (⟨"com/example/foreslot/foreslot/CountsByEnd", "<init>", "()V"⟩ : MethodName) prog_20_method_1_code 1 none :: ws) ({ frames := 1, cells := 2, slots := 32, locals := 12 } : Room)) (fun a U => a = #[(.ref oa)] ∧ Z.Warmed39 U.vm ∧ U.heap = h0) (fun _ _ _ _ _ => True) (fun _ U o U' => ∃ v L, o = .returned v ∧ Q1 Z oa h0 n0 v U'.heap L ∧ FrameEnd U o U' L ({ frames := 1, cells := 2, slots := 32, locals := 12 } : Room).cells ({ frames := 1, cells := 2, slots := 32, locals := 12 } : Room).slots) := by
  refine MetFree.of_bodySF (plainFor_of_name pn_1) hisR ?_
  intro p e s m args below meth c s₁ Bd hml0 hP hK
  obtain ⟨rfl, hZ, hh⟩ := hP
  have hx := Bd.exec
  have hby := Bd.bytes
  have hml : c.maxLocals = 1 := hml0
  have hown : s.vm.findClass "com/example/foreslot/foreslot/CountsByEnd" = some m.cls := findClass_of_methodNamed Bd.named
  have hnm := (name_of_methodNamed Bd.named Bd.method).1
  have X0 : Stand p l e ({ frames := 1, cells := 2, slots := 32, locals := 12 } : Room) s m #[(.ref oa)] below meth c s₁ [] 0 0 := Stand.of_body Bd
  have e0 : s₁.heap = h0 := by rw [← hh, Bd.state]; rfl
  have N0 := Fr.nil n0
  have pre0 : ∀ t, Steps p.tables e below (s₁.setTop (mkF m 0 #[.val (.ref oa)] [])) t → Steps p.tables e below (s₁.setTop (entryFrame m #[(.ref oa)] 1)) t := fun t k => castTop (ef_rm1 m oa) k
  obtain ⟨T1, X1, e1, st1⟩ := initO X0 hx hZ hown (hw _ (List.mem_of_getElem? (i := 6) rfl)) (hw _ (List.mem_of_getElem? (i := 7) rfl)) (hw _ (List.mem_of_getElem? (i := 8) rfl)) e0 (g := (mkF m 1 #[.val (.ref oa)] [(.ref oa)])) rfl (by rw [hml]; rfl) rfl (hb hby d1_1) (by decide) (W := 0) (by show 2 * 0 + _ ≤ _; exact Nat.le_of_eq rfl) (by decide)
  obtain ⟨T2, h2, k2, X2, e2, E2, A2, st2⟩ := newP X1 hx hZ (hw _ (List.mem_of_getElem? (i := 9) rfl)) e1 (g := (mkF m 7 #[.val (.ref oa)] [(.int (16 : Int32)), (.ref oa)])) rfl (hb hby d1_7) rfl (by decide) (cap := 16) (by decide) (by decide) (by decide) (by decide)
  obtain ⟨b2, g2⟩ : ∃ z, z = h0.size := ⟨_, rfl⟩
  have ne_oa_b2 : oa ≠ b2 := Nat.ne_of_lt (Nat.lt_of_lt_of_le Ea.lt (Nat.le_of_eq g2.symm))
  have g_b2 : n0 ≤ b2 := Nat.le_trans Z0 (Nat.le_of_eq g2.symm)
  have sz_b2 : h0.size ≤ b2 := Nat.le_trans (Keep.refl h0 [oa]).1 (Nat.le_of_eq g2.symm)
  rw [← g2] at A2 st2
  have Zs3 : n0 ≤ h2.size := Nat.le_trans Z0 E2.1
  have V2 : Arv Z h2 b2 k2 .long (16 : Int32) [(.long (0 : Int64)), (.long (0 : Int64)), (.long (0 : Int64)), (.long (0 : Int64))] (.long (0 : Int64)) := (Arv.new A2 (by decide)).pad (pad_rep [] (.long (0 : Int64)) 4)
  have f4 := (F0.ext E2)
  have f5 := (Ea.ext E2)
  obtain ⟨T6, h6, X6, e6, W6, st6⟩ := putF X2 hx hZ hown (host := "") (Or.inl (hw _ (List.mem_of_getElem? (i := 10) rfl))) Via.refl e2 f4 f5 (Or.inl (hw _ (List.mem_of_getElem? (i := 11) rfl))) (hw _ (List.mem_of_getElem? (i := 1) rfl)) (ty := (.array .long)) (by decide) rfl rfl (g := (mkF m 9 #[.val (.ref oa)] [(.ref b2), (.ref oa)])) rfl rfl (hb hby d1_9)
  have N6 := Fr.snoc X6 N0 ga
  have Zs7 : n0 ≤ h6.size := by rw [W6.size]; exact Zs3
  have Fw6 := f4.same W6
  have f8 := (f5.wr W6)
  have f9 := (V2.other W6 (Ne.symm ne_oa_b2))
  obtain ⟨T10, h10, k10, X10, e10, E10, A10, st10⟩ := newP X6 hx hZ (hw _ (List.mem_of_getElem? (i := 9) rfl)) e6 (g := (mkF m 15 #[.val (.ref oa)] [(.int (16 : Int32)), (.ref oa)])) rfl (hb hby d1_15) rfl (by decide) (cap := 16) (by decide) (by decide) (by decide) (by decide)
  obtain ⟨b10, g10⟩ : ∃ z, z = h6.size := ⟨_, rfl⟩
  have ne_oa_b10 : oa ≠ b10 := Nat.ne_of_lt (Nat.lt_of_lt_of_le f8.lt (Nat.le_of_eq g10.symm))
  have ne_b2_b10 : b2 ≠ b10 := Nat.ne_of_lt (Nat.lt_of_lt_of_le f9.lt (Nat.le_of_eq g10.symm))
  have g_b10 : n0 ≤ b10 := Nat.le_trans Zs7 (Nat.le_of_eq g10.symm)
  have f11 := (((Keep.refl h0 [oa]).ext E2).wr W6 (Or.inl (List.mem_of_getElem? (i := 0) rfl)))
  have sz_b10 : h0.size ≤ b10 := Nat.le_trans f11.1 (Nat.le_of_eq g10.symm)
  rw [← g10] at A10 st10
  have Zs12 : n0 ≤ h10.size := Nat.le_trans Zs7 E10.1
  have V10 : Arv Z h10 b10 k10 .long (16 : Int32) [(.long (0 : Int64)), (.long (0 : Int64)), (.long (0 : Int64)), (.long (0 : Int64))] (.long (0 : Int64)) := (Arv.new A10 (by decide)).pad (pad_rep [] (.long (0 : Int64)) 4)
  have f13 := (((F1.ext E2).other W6 (Or.inr (slot_ne (Or.inl (hw _ (List.mem_of_getElem? (i := 13) rfl))) (Or.inl (hw _ (List.mem_of_getElem? (i := 11) rfl))) (by decide) (t := (.array .long)) (t' := (.array .long)) (by decide) (by decide)))).ext E10)
  have f14 := (f8.ext E10)
  obtain ⟨T15, h15, X15, e15, W15, st15⟩ := putF X10 hx hZ hown (host := "") (Or.inl (hw _ (List.mem_of_getElem? (i := 12) rfl))) Via.refl e10 f13 f14 (Or.inl (hw _ (List.mem_of_getElem? (i := 13) rfl))) (hw _ (List.mem_of_getElem? (i := 1) rfl)) (ty := (.array .long)) (by decide) rfl rfl (g := (mkF m 17 #[.val (.ref oa)] [(.ref b10), (.ref oa)])) rfl rfl (hb hby d1_17)
  have N15 := Fr.snoc X15 N6 ga
  have Zs16 : n0 ≤ h15.size := by rw [W15.size]; exact Zs12
  have Fw15 := f13.same W15
  obtain ⟨fs, hr, hrun, hended, hW, hsame⟩ := X15.leave (v := none) (fun _ => rfl)
  refine ⟨_, _, pre0 _ ?_, hrun, hended, _, _, rfl, ?_, ⟨_, rfl⟩, hW, hsame.mono (by decide) (by decide)⟩
  · show Steps p.tables e below (s₁.setTop (mkF m 0 #[.val (.ref oa)] [])) _
    refine XS.aloadN X0.here hx rfl (hb hby d1_0) rfl rfl ?_
    show Steps p.tables e below (s₁.setTop (mkF m 1 #[.val (.ref oa)] [(.ref oa)])) _
    refine st1 _ ?_
    show Steps p.tables e below (T1.setTop (mkF m 4 #[.val (.ref oa)] [])) _
    refine XS.aloadN X1.here hx rfl (hb hby d1_4) rfl rfl ?_
    show Steps p.tables e below (T1.setTop (mkF m 5 #[.val (.ref oa)] [(.ref oa)])) _
    refine XS.bipush X1.here hx rfl (hb hby d1_5) ?_
    show Steps p.tables e below (T1.setTop (mkF m 7 #[.val (.ref oa)] [(.int (16 : Int32)), (.ref oa)])) _
    refine st2 _ ?_
    show Steps p.tables e below (T2.setTop (mkF m 9 #[.val (.ref oa)] [(.ref b2), (.ref oa)])) _
    refine st6 _ ?_
    show Steps p.tables e below (T6.setTop (mkF m 12 #[.val (.ref oa)] [])) _
    refine XS.aloadN X6.here hx rfl (hb hby d1_12) rfl rfl ?_
    show Steps p.tables e below (T6.setTop (mkF m 13 #[.val (.ref oa)] [(.ref oa)])) _
    refine XS.bipush X6.here hx rfl (hb hby d1_13) ?_
    show Steps p.tables e below (T6.setTop (mkF m 15 #[.val (.ref oa)] [(.int (16 : Int32)), (.ref oa)])) _
    refine st10 _ ?_
    show Steps p.tables e below (T10.setTop (mkF m 17 #[.val (.ref oa)] [(.ref b10), (.ref oa)])) _
    refine st15 _ ?_
    show Steps p.tables e below (T15.setTop (mkF m 20 #[.val (.ref oa)] [])) _
    exact X15.returnOut hx Bd.returns (hb hby d1_20) hr
  · show Q1 Z oa h0 n0 _ T15.heap _
    rw [e15]
    have f17 := ((f11.ext E10).wr W15 (Or.inl (List.mem_of_getElem? (i := 0) rfl)))
    have f18 := (f14.wr W15)
    have f19 := ((Fw6.ext E10).other W15 (Or.inr (slot_ne (Or.inl (hw _ (List.mem_of_getElem? (i := 11) rfl))) (Or.inl (hw _ (List.mem_of_getElem? (i := 13) rfl))) (by decide) (t := (.array .long)) (t' := (.array .long)) (by decide) (by decide))))
    have f20 := ((((F2.ext E2).other W6 (Or.inr (slot_ne (Or.inl (hw _ (List.mem_of_getElem? (i := 20) rfl))) (Or.inl (hw _ (List.mem_of_getElem? (i := 11) rfl))) (by decide) (t := .int) (t' := (.array .long)) (by decide) (by decide)))).ext E10).other W15 (Or.inr (slot_ne (Or.inl (hw _ (List.mem_of_getElem? (i := 20) rfl))) (Or.inl (hw _ (List.mem_of_getElem? (i := 13) rfl))) (by decide) (t := .int) (t' := (.array .long)) (by decide) (by decide))))
    have f21 := ((f9.ext E10).other W15 (Ne.symm ne_oa_b2))
    have f22 := (V10.other W15 (Ne.symm ne_oa_b10))
    exact ⟨rfl, N15, f17, f18, b2, b10, _, _, g_b2, g_b10, ne_oa_b2, ne_oa_b10, ne_b2_b10, sz_b2, sz_b10, f19, Fw15, f20, f21, f22⟩
theorem d4_0 : decode prog_20_method_2_code 0 = .ok (.aload_n 0, 1) := by decide +kernel
theorem d4_1 : decode prog_20_method_2_code 1 = .ok (.getfield 9, 3) := by decide +kernel
theorem d4_4 : decode prog_20_method_2_code 4 = .ok (.iconst 0, 1) := by decide +kernel
theorem d4_5 : decode prog_20_method_2_code 5 = .ok (.aload_n 0, 1) := by decide +kernel
theorem d4_6 : decode prog_20_method_2_code 6 = .ok (.getfield 16, 3) := by decide +kernel
theorem d4_9 : decode prog_20_method_2_code 9 = .ok (.lload_n 1, 1) := by decide +kernel
theorem d4_10 : decode prog_20_method_2_code 10 = .ok (.invokestatic 20, 3) := by decide +kernel
theorem d4_13 : decode prog_20_method_2_code 13 = .ok (.istore 5, 2) := by decide +kernel
theorem d4_15 : decode prog_20_method_2_code 15 = .ok (.iload 5, 2) := by decide +kernel
theorem d4_17 : decode prog_20_method_2_code 17 = .ok (.ifCond .lt 15, 3) := by decide +kernel
theorem d4_32 : decode prog_20_method_2_code 32 = .ok (.iload 5, 2) := by decide +kernel
theorem d4_34 : decode prog_20_method_2_code 34 = .ok (.ineg, 1) := by decide +kernel
theorem d4_35 : decode prog_20_method_2_code 35 = .ok (.iconst 1, 1) := by decide +kernel
theorem d4_36 : decode prog_20_method_2_code 36 = .ok (.isub, 1) := by decide +kernel
theorem d4_37 : decode prog_20_method_2_code 37 = .ok (.istore 5, 2) := by decide +kernel
theorem d4_39 : decode prog_20_method_2_code 39 = .ok (.aload_n 0, 1) := by decide +kernel
theorem d4_40 : decode prog_20_method_2_code 40 = .ok (.getfield 16, 3) := by decide +kernel
theorem d4_43 : decode prog_20_method_2_code 43 = .ok (.aload_n 0, 1) := by decide +kernel
theorem d4_44 : decode prog_20_method_2_code 44 = .ok (.getfield 9, 3) := by decide +kernel
theorem d4_47 : decode prog_20_method_2_code 47 = .ok (.arraylength, 1) := by decide +kernel
theorem d4_48 : decode prog_20_method_2_code 48 = .ok (.if_icmp .ne 37, 3) := by decide +kernel
theorem d4_85 : decode prog_20_method_2_code 85 = .ok (.aload_n 0, 1) := by decide +kernel
theorem d4_86 : decode prog_20_method_2_code 86 = .ok (.getfield 9, 3) := by decide +kernel
theorem d4_89 : decode prog_20_method_2_code 89 = .ok (.iload 5, 2) := by decide +kernel
theorem d4_91 : decode prog_20_method_2_code 91 = .ok (.aload_n 0, 1) := by decide +kernel
theorem d4_92 : decode prog_20_method_2_code 92 = .ok (.getfield 9, 3) := by decide +kernel
theorem d4_95 : decode prog_20_method_2_code 95 = .ok (.iload 5, 2) := by decide +kernel
theorem d4_97 : decode prog_20_method_2_code 97 = .ok (.iconst 1, 1) := by decide +kernel
theorem d4_98 : decode prog_20_method_2_code 98 = .ok (.iadd, 1) := by decide +kernel
theorem d4_99 : decode prog_20_method_2_code 99 = .ok (.aload_n 0, 1) := by decide +kernel
theorem d4_100 : decode prog_20_method_2_code 100 = .ok (.getfield 16, 3) := by decide +kernel
theorem d4_103 : decode prog_20_method_2_code 103 = .ok (.iload 5, 2) := by decide +kernel
theorem d4_105 : decode prog_20_method_2_code 105 = .ok (.isub, 1) := by decide +kernel
theorem d4_106 : decode prog_20_method_2_code 106 = .ok (.invokestatic 30, 3) := by decide +kernel
theorem d4_109 : decode prog_20_method_2_code 109 = .ok (.aload_n 0, 1) := by decide +kernel
theorem d4_110 : decode prog_20_method_2_code 110 = .ok (.getfield 13, 3) := by decide +kernel
theorem d4_113 : decode prog_20_method_2_code 113 = .ok (.iload 5, 2) := by decide +kernel
theorem d4_115 : decode prog_20_method_2_code 115 = .ok (.aload_n 0, 1) := by decide +kernel
theorem d4_116 : decode prog_20_method_2_code 116 = .ok (.getfield 13, 3) := by decide +kernel
theorem d4_119 : decode prog_20_method_2_code 119 = .ok (.iload 5, 2) := by decide +kernel
theorem d4_121 : decode prog_20_method_2_code 121 = .ok (.iconst 1, 1) := by decide +kernel
theorem d4_122 : decode prog_20_method_2_code 122 = .ok (.iadd, 1) := by decide +kernel
theorem d4_123 : decode prog_20_method_2_code 123 = .ok (.aload_n 0, 1) := by decide +kernel
theorem d4_124 : decode prog_20_method_2_code 124 = .ok (.getfield 16, 3) := by decide +kernel
theorem d4_127 : decode prog_20_method_2_code 127 = .ok (.iload 5, 2) := by decide +kernel
theorem d4_129 : decode prog_20_method_2_code 129 = .ok (.isub, 1) := by decide +kernel
theorem d4_130 : decode prog_20_method_2_code 130 = .ok (.invokestatic 30, 3) := by decide +kernel
theorem d4_133 : decode prog_20_method_2_code 133 = .ok (.aload_n 0, 1) := by decide +kernel
theorem d4_134 : decode prog_20_method_2_code 134 = .ok (.getfield 9, 3) := by decide +kernel
theorem d4_137 : decode prog_20_method_2_code 137 = .ok (.iload 5, 2) := by decide +kernel
theorem d4_139 : decode prog_20_method_2_code 139 = .ok (.lload_n 1, 1) := by decide +kernel
theorem d4_140 : decode prog_20_method_2_code 140 = .ok (.lastore, 1) := by decide +kernel
theorem d4_141 : decode prog_20_method_2_code 141 = .ok (.aload_n 0, 1) := by decide +kernel
theorem d4_142 : decode prog_20_method_2_code 142 = .ok (.getfield 13, 3) := by decide +kernel
theorem d4_145 : decode prog_20_method_2_code 145 = .ok (.iload 5, 2) := by decide +kernel
theorem d4_147 : decode prog_20_method_2_code 147 = .ok (.lload_n 3, 1) := by decide +kernel
theorem d4_148 : decode prog_20_method_2_code 148 = .ok (.lastore, 1) := by decide +kernel
theorem d4_149 : decode prog_20_method_2_code 149 = .ok (.aload_n 0, 1) := by decide +kernel
theorem d4_150 : decode prog_20_method_2_code 150 = .ok (.dup, 1) := by decide +kernel
theorem d4_151 : decode prog_20_method_2_code 151 = .ok (.getfield 16, 3) := by decide +kernel
theorem d4_154 : decode prog_20_method_2_code 154 = .ok (.iconst 1, 1) := by decide +kernel
theorem d4_155 : decode prog_20_method_2_code 155 = .ok (.iadd, 1) := by decide +kernel
theorem d4_156 : decode prog_20_method_2_code 156 = .ok (.putfield 16, 3) := by decide +kernel
theorem d4_159 : decode prog_20_method_2_code 159 = .ok (.return_, 1) := by decide +kernel
theorem ef_rm_add0 (m : MethodId) (x0 : Addr) (x1 : Int64) (x2 : Int64) : entryFrame m #[(.ref x0), (.long x1), (.long x2)] 6 = mkF m 0 #[.val (.ref x0), .val (.long x1), .second, .val (.long x2), .second, .unset] [] := by first | (simp [entryFrame, mkF, argsToLocals, Value.category]; done) | rfl
def Q_add0 (Z : State) (oa : Addr) (qe : Int64) (qc : Int64) (ea : Addr) (ca : Addr) (kE : ClassId) (kC : ClassId) (h0 : Heap) (n0 : Nat) (v : Option Value) (h : Heap) (L : List Loc) : Prop := v = none ∧ Fr n0 L ∧ Keep h0 h [oa, ea, ca] ∧ Exa Z h oa "com/example/foreslot/foreslot/CountsByEnd" ∧ Fld Z h oa "com/example/foreslot/foreslot/CountsByEnd" "ends" "[J" (.ref ea) ∧ Fld Z h oa "com/example/foreslot/foreslot/CountsByEnd" "counts" "[J" (.ref ca) ∧ ((∃ y0 d0 : Int64, Fld Z h oa "com/example/foreslot/foreslot/CountsByEnd" "size" "I" (.int (1 : Int32)) ∧ Arv Z h ea kE .long (16 : Int32) [(.long y0), (.long (0 : Int64)), (.long (0 : Int64)), (.long (0 : Int64))] (.long (0 : Int64)) ∧ Arv Z h ca kC .long (16 : Int32) [(.long d0), (.long (0 : Int64)), (.long (0 : Int64)), (.long (0 : Int64))] (.long (0 : Int64)) ∧ 1 ≤ d0.toInt ∧ d0.toInt = qc.toInt ∧ (∀ s : Int, own_f y0.toInt s d0.toInt = own_f qe.toInt s qc.toInt)))
set_option maxRecDepth 65536 in
set_option maxHeartbeats 40000000 in
theorem rm_add0 (l : Launch) (Z : State) (a0 : Array Value) (hw : ∀ d ∈ tables_1, d.before a0 Z = true) (ws : List Jvm.Cond) (oa : Addr) (qe : Int64) (qc : Int64) (ea : Addr) (ca : Addr) (kE : ClassId) (kC : ClassId) (h0 : Heap) (n0 : Nat) (Z0 : n0 ≤ h0.size) (Ea : Exa Z h0 oa "com/example/foreslot/foreslot/CountsByEnd") (F0 : Fld Z h0 oa "com/example/foreslot/foreslot/CountsByEnd" "ends" "[J" (.ref ea)) (F1 : Fld Z h0 oa "com/example/foreslot/foreslot/CountsByEnd" "counts" "[J" (.ref ca)) (F2 : Fld Z h0 oa "com/example/foreslot/foreslot/CountsByEnd" "size" "I" (.int (0 : Int32))) (V0 : Arv Z h0 ea kE .long (16 : Int32) [(.long (0 : Int64)), (.long (0 : Int64)), (.long (0 : Int64)), (.long (0 : Int64))] (.long (0 : Int64))) (V1 : Arv Z h0 ca kC .long (16 : Int32) [(.long (0 : Int64)), (.long (0 : Int64)), (.long (0 : Int64)), (.long (0 : Int64))] (.long (0 : Int64))) (ga : n0 ≤ oa) (ge : n0 ≤ ea) (gc : n0 ≤ ca) (nae : oa ≠ ea) (nac : oa ≠ ca) (nec : ea ≠ ca) (kq : 1 ≤ qc.toInt) (kt : qc.toInt ≤ 100000) :
    MetFree l (⟨"com/example/foreslot/foreslot/CountsByEnd", "add", "(JJ)V"⟩ : MethodName) (head1 (Jvm.Cond.code (⟨"com/example/foreslot/foreslot/CountsByEnd", "add", "(JJ)V"⟩ : MethodName) prog_20_method_2_code 6 none :: ws) ({ frames := 2, cells := 0, slots := 0, locals := 37 } : Room)) (fun a U => a = #[(.ref oa), (.long qe), (.long qc)] ∧ Z.Warmed39 U.vm ∧ U.heap = h0) (fun _ _ _ _ _ => True) (fun _ U o U' => ∃ v L, o = .returned v ∧ Q_add0 Z oa qe qc ea ca kE kC h0 n0 v U'.heap L ∧ FrameEnd U o U' L ({ frames := 2, cells := 0, slots := 0, locals := 37 } : Room).cells ({ frames := 2, cells := 0, slots := 0, locals := 37 } : Room).slots) := by
  refine MetFree.of_bodySF (plainFor_of_name pn_1) hisR ?_
  intro p e s m args below meth c s₁ Bd hml0 hP hK
  obtain ⟨rfl, hZ, hh⟩ := hP
  have hx := Bd.exec
  have hby := Bd.bytes
  have hml : c.maxLocals = 6 := hml0
  have hown : s.vm.findClass "com/example/foreslot/foreslot/CountsByEnd" = some m.cls := findClass_of_methodNamed Bd.named
  have hnm := (name_of_methodNamed Bd.named Bd.method).1
  have X0 : Stand p l e ({ frames := 2, cells := 0, slots := 0, locals := 37 } : Room) s m #[(.ref oa), (.long qe), (.long qc)] below meth c s₁ [] 0 0 := Stand.of_body Bd
  have e0 : s₁.heap = h0 := by rw [← hh, Bd.state]; rfl
  have N0 := Fr.nil n0
  have pre0 : ∀ t, Steps p.tables e below (s₁.setTop (mkF m 0 #[.val (.ref oa), .val (.long qe), .second, .val (.long qc), .second, .unset] [])) t → Steps p.tables e below (s₁.setTop (entryFrame m #[(.ref oa), (.long qe), (.long qc)] 6)) t := fun t k => castTop (ef_rm_add0 m oa qe qc) k
  obtain ⟨T1, X1, e1, st1⟩ := getF X0 hx hZ hown (host := "") (Or.inl (hw _ (List.mem_of_getElem? (i := 10) rfl))) Via.refl e0 F0 (g := (mkF m 1 #[.val (.ref oa), .val (.long qe), .second, .val (.long qc), .second, .unset] [(.ref oa)])) rfl rfl (hb hby d4_1)
  obtain ⟨T2, X2, e2, st2⟩ := getF X1 hx hZ hown (host := "") (Or.inl (hw _ (List.mem_of_getElem? (i := 19) rfl))) Via.refl e1 F2 (g := (mkF m 6 #[.val (.ref oa), .val (.long qe), .second, .val (.long qc), .second, .unset] [(.ref oa), (.int (0 : Int32)), (.ref ea)])) rfl rfl (hb hby d4_6)
  obtain ⟨_, _, ⟨T3, L3, k3, n3⟩, -, X3, ⟨Lc3, hQ3, l3, y3, z3⟩, st3⟩ := Jvm.LawKit.callS X2 hx (y := (⟨"java/util/Arrays", "binarySearch", "([JIIJ)I"⟩ : MethodName)) hown (mvT hZ (hw _ (List.mem_of_getElem? (i := 26) rfl))) (mvT hZ (hw _ (List.mem_of_getElem? (i := 27) rfl))) (mvT hZ (hw _ (List.mem_of_getElem? (i := 28) rfl))) (mvT hZ (hw _ (List.mem_of_getElem? (i := 29) rfl))) (by decide) (backOf (W := 0) (rm_bs0 l Z a0 hw [] ea qe kE h0 n0 Z0 V0) hZ (hw _ (List.mem_of_getElem? (i := 29) rfl)) (hw _ (List.mem_of_getElem? (i := 28) rfl)) (by decide) (by decide)) (g := (mkF m 10 #[.val (.ref oa), .val (.long qe), .second, .val (.long qc), .second, .unset] [(.long qe), (.int (0 : Int32)), (.int (0 : Int32)), (.ref ea)])) rfl (by rw [hml]; rfl) (argsL := [(.ref ea), (.int (0 : Int32)), (.int (0 : Int32)), (.long qe)]) (rest := []) (lenOf pd_1 rfl) rfl (by show 2 * 0 + _ ≤ _; exact Nat.le_of_eq rfl) (hb hby d4_10) (fun _ _ => ⟨rfl, e2, (by decide : 0 + 0 ≤ _), (by decide : 0 + 0 ≤ _)⟩)
  dsimp only [Pt.U, Pt.locs, Pt.cells, Pt.slots] at X3 l3 y3 z3 st3 hQ3
  subst l3 y3 z3
  obtain ⟨rb, rfl, hrb, N3q, e3⟩ := hQ3
  have N3 := Fr.app N0 N3q
  have pre4 : ∀ t, Steps p.tables e below (T3.setTop (mkF m 13 #[.val (.ref oa), .val (.long qe), .second, .val (.long qc), .second, .unset] [(.int rb)])) t → Steps p.tables e below (s₁.setTop (entryFrame m #[(.ref oa), (.long qe), (.long qc)] 6)) t := fun t kt => by
    refine pre0 _ ?_
    show Steps p.tables e below (s₁.setTop (mkF m 0 #[.val (.ref oa), .val (.long qe), .second, .val (.long qc), .second, .unset] [])) _
    refine XS.aloadN X0.here hx rfl (hb hby d4_0) rfl rfl ?_
    show Steps p.tables e below (s₁.setTop (mkF m 1 #[.val (.ref oa), .val (.long qe), .second, .val (.long qc), .second, .unset] [(.ref oa)])) _
    refine st1 _ ?_
    show Steps p.tables e below (T1.setTop (mkF m 4 #[.val (.ref oa), .val (.long qe), .second, .val (.long qc), .second, .unset] [(.ref ea)])) _
    refine XS.iconst X1.here hx rfl (hb hby d4_4) ?_
    show Steps p.tables e below (T1.setTop (mkF m 5 #[.val (.ref oa), .val (.long qe), .second, .val (.long qc), .second, .unset] [(.int (0 : Int32)), (.ref ea)])) _
    refine XS.aloadN X1.here hx rfl (hb hby d4_5) rfl rfl ?_
    show Steps p.tables e below (T1.setTop (mkF m 6 #[.val (.ref oa), .val (.long qe), .second, .val (.long qc), .second, .unset] [(.ref oa), (.int (0 : Int32)), (.ref ea)])) _
    refine st2 _ ?_
    show Steps p.tables e below (T2.setTop (mkF m 9 #[.val (.ref oa), .val (.long qe), .second, .val (.long qc), .second, .unset] [(.int (0 : Int32)), (.int (0 : Int32)), (.ref ea)])) _
    refine XS.lloadN X2.here hx rfl (hb hby d4_9) rfl ?_
    show Steps p.tables e below (T2.setTop (mkF m 10 #[.val (.ref oa), .val (.long qe), .second, .val (.long qc), .second, .unset] [(.long qe), (.int (0 : Int32)), (.int (0 : Int32)), (.ref ea)])) _
    refine st3 _ ?_
    exact kt
  rcases hrb with rfl
  have pre5 : ∀ t, Steps p.tables e below (T3.setTop (mkF m 13 #[.val (.ref oa), .val (.long qe), .second, .val (.long qc), .second, .unset] [(.int (-1 : Int32))])) t → Steps p.tables e below (s₁.setTop (entryFrame m #[(.ref oa), (.long qe), (.long qc)] 6)) t := pre4
  have hc17_6 : (-1 : Int) < (0 : Int) := by decide
  obtain ⟨T7, X7, e7, st7⟩ := getF X3 hx hZ hown (host := "") (Or.inl (hw _ (List.mem_of_getElem? (i := 19) rfl))) Via.refl e3 F2 (g := (mkF m 40 #[.val (.ref oa), .val (.long qe), .second, .val (.long qc), .second, .val (.int (0 : Int32))] [(.ref oa)])) rfl rfl (hb hby d4_40)
  obtain ⟨T8, X8, e8, st8⟩ := getF X7 hx hZ hown (host := "") (Or.inl (hw _ (List.mem_of_getElem? (i := 10) rfl))) Via.refl e7 F0 (g := (mkF m 44 #[.val (.ref oa), .val (.long qe), .second, .val (.long qc), .second, .val (.int (0 : Int32))] [(.ref oa), (.int (0 : Int32))])) rfl rfl (hb hby d4_44)
  obtain ⟨cl9, Ar9, q9, S9, M9, H9, G9⟩ := id V0
  have hc48_10 : ¬ ((0 : Int) = (16 : Int)) := by decide
  obtain ⟨T11, X11, e11, st11⟩ := getF X8 hx hZ hown (host := "") (Or.inl (hw _ (List.mem_of_getElem? (i := 10) rfl))) Via.refl e8 F0 (g := (mkF m 86 #[.val (.ref oa), .val (.long qe), .second, .val (.long qc), .second, .val (.int (0 : Int32))] [(.ref oa)])) rfl rfl (hb hby d4_86)
  obtain ⟨T12, X12, e12, st12⟩ := getF X11 hx hZ hown (host := "") (Or.inl (hw _ (List.mem_of_getElem? (i := 10) rfl))) Via.refl e11 F0 (g := (mkF m 92 #[.val (.ref oa), .val (.long qe), .second, .val (.long qc), .second, .val (.int (0 : Int32))] [(.ref oa), (.int (0 : Int32)), (.ref ea)])) rfl rfl (hb hby d4_92)
  obtain ⟨T13, X13, e13, st13⟩ := getF X12 hx hZ hown (host := "") (Or.inl (hw _ (List.mem_of_getElem? (i := 19) rfl))) Via.refl e12 F2 (g := (mkF m 100 #[.val (.ref oa), .val (.long qe), .second, .val (.long qc), .second, .val (.int (0 : Int32))] [(.ref oa), (.int (1 : Int32)), (.ref ea), (.int (0 : Int32)), (.ref ea)])) rfl rfl (hb hby d4_100)
  obtain ⟨T14, h14, L14, X14, e14, N14, K14, V14, st14⟩ := cpA X13 hx hZ hown (hw _ (List.mem_of_getElem? (i := 36) rfl)) (hw _ (List.mem_of_getElem? (i := 39) rfl)) (hw _ (List.mem_of_getElem? (i := 37) rfl)) (hw _ (List.mem_of_getElem? (i := 38) rfl)) e13 V0 V0 (Or.inl ⟨rfl, rfl⟩) (by decide : ¬ (0 : Int32) < 0) (by decide : ¬ (1 : Int32) < 0) (by decide : ¬ (0 : Int32) < 0) (by decide) (by decide) (us := []) rfl (Nat.le_of_ble_eq_true rfl) N3 ge (g := (mkF m 106 #[.val (.ref oa), .val (.long qe), .second, .val (.long qc), .second, .val (.int (0 : Int32))] [(.int (0 : Int32)), (.int (1 : Int32)), (.ref ea), (.int (0 : Int32)), (.ref ea)])) rfl (by rw [hml]; rfl) (rest := []) rfl (hb hby d4_106) (by decide) (W := 0) (by show 2 * 0 + _ ≤ _; exact Nat.le_of_eq rfl) (by decide)
  have Zs15 : n0 ≤ h14.size := Nat.le_trans Z0 K14.1
  have Vc14 : Arv Z h14 ea kE .long (16 : Int32) [(.long (0 : Int64)), (.long (0 : Int64)), (.long (0 : Int64)), (.long (0 : Int64))] (.long (0 : Int64)) := V14
  have f16 := (F1.keep K14 (ninS nae nin0))
  obtain ⟨T17, X17, e17, st17⟩ := getF X14 hx hZ hown (host := "") (Or.inl (hw _ (List.mem_of_getElem? (i := 12) rfl))) Via.refl e14 f16 (g := (mkF m 110 #[.val (.ref oa), .val (.long qe), .second, .val (.long qc), .second, .val (.int (0 : Int32))] [(.ref oa)])) rfl rfl (hb hby d4_110)
  obtain ⟨T18, X18, e18, st18⟩ := getF X17 hx hZ hown (host := "") (Or.inl (hw _ (List.mem_of_getElem? (i := 12) rfl))) Via.refl e17 f16 (g := (mkF m 116 #[.val (.ref oa), .val (.long qe), .second, .val (.long qc), .second, .val (.int (0 : Int32))] [(.ref oa), (.int (0 : Int32)), (.ref ca)])) rfl rfl (hb hby d4_116)
  have f19 := (F2.keep K14 (ninS nae nin0))
  obtain ⟨T20, X20, e20, st20⟩ := getF X18 hx hZ hown (host := "") (Or.inl (hw _ (List.mem_of_getElem? (i := 19) rfl))) Via.refl e18 f19 (g := (mkF m 124 #[.val (.ref oa), .val (.long qe), .second, .val (.long qc), .second, .val (.int (0 : Int32))] [(.ref oa), (.int (1 : Int32)), (.ref ca), (.int (0 : Int32)), (.ref ca)])) rfl rfl (hb hby d4_124)
  have f21 := (V1.keep K14 (ninS (Ne.symm nec) nin0))
  obtain ⟨T22, h22, L22, X22, e22, N22, K22, V22, st22⟩ := cpA X20 hx hZ hown (hw _ (List.mem_of_getElem? (i := 36) rfl)) (hw _ (List.mem_of_getElem? (i := 39) rfl)) (hw _ (List.mem_of_getElem? (i := 37) rfl)) (hw _ (List.mem_of_getElem? (i := 38) rfl)) e20 f21 f21 (Or.inl ⟨rfl, rfl⟩) (by decide : ¬ (0 : Int32) < 0) (by decide : ¬ (1 : Int32) < 0) (by decide : ¬ (0 : Int32) < 0) (by decide) (by decide) (us := []) rfl (Nat.le_of_ble_eq_true rfl) N14 gc (g := (mkF m 130 #[.val (.ref oa), .val (.long qe), .second, .val (.long qc), .second, .val (.int (0 : Int32))] [(.int (0 : Int32)), (.int (1 : Int32)), (.ref ca), (.int (0 : Int32)), (.ref ca)])) rfl (by rw [hml]; rfl) (rest := []) rfl (hb hby d4_130) (by decide) (W := 0) (by show 2 * 0 + _ ≤ _; exact Nat.le_of_eq rfl) (by decide)
  have Zs23 : n0 ≤ h22.size := Nat.le_trans Zs15 K22.1
  have Vc22 : Arv Z h22 ca kC .long (16 : Int32) [(.long (0 : Int64)), (.long (0 : Int64)), (.long (0 : Int64)), (.long (0 : Int64))] (.long (0 : Int64)) := V22
  have f24 := ((F0.keep K14 (ninS nae nin0)).keep K22 (ninS nac nin0))
  obtain ⟨T25, X25, e25, st25⟩ := getF X22 hx hZ hown (host := "") (Or.inl (hw _ (List.mem_of_getElem? (i := 10) rfl))) Via.refl e22 f24 (g := (mkF m 134 #[.val (.ref oa), .val (.long qe), .second, .val (.long qc), .second, .val (.int (0 : Int32))] [(.ref oa)])) rfl rfl (hb hby d4_134)
  have f26 := (Vc14.keep K22 (ninS nec nin0))
  obtain ⟨cl27, Ar27, q27, S27, M27, H27, G27⟩ := id f26
  have hin27 : ¬ ((0 : Int32) < 0 ∨ cl27.slots.size ≤ ((0 : Int32)).toNatClampNeg) := inb_of S27 ⟨by decide, by decide⟩
  obtain ⟨T28, h28, X28, e28, W28, st28⟩ := stJ X25 hx hZ e25 Ar27 (j := (0 : Int32)) hin27 (g := (mkF m 140 #[.val (.ref oa), .val (.long qe), .second, .val (.long qc), .second, .val (.int (0 : Int32))] [(.long qe), (.int (0 : Int32)), (.ref ea)])) rfl rfl (hb hby d4_140)
  have N28 := Fr.snoc X28 N22 ge
  have Zs29 : n0 ≤ h28.size := by rw [W28.size]; exact Zs23
  have V28 : Arv Z h28 ea kE .long (16 : Int32) [(.long qe), (.long (0 : Int64)), (.long (0 : Int64)), (.long (0 : Int64))] (.long (0 : Int64)) := Arv.set Ar27 q27 S27 M27 H27 G27 rfl W28 0 rfl (Nat.le_of_ble_eq_true rfl)
  have f30 := ((f16.keep K22 (ninS nac nin0)).other W28 (Or.inl nae))
  obtain ⟨T31, X31, e31, st31⟩ := getF X28 hx hZ hown (host := "") (Or.inl (hw _ (List.mem_of_getElem? (i := 12) rfl))) Via.refl e28 f30 (g := (mkF m 142 #[.val (.ref oa), .val (.long qe), .second, .val (.long qc), .second, .val (.int (0 : Int32))] [(.ref oa)])) rfl rfl (hb hby d4_142)
  have f32 := (Vc22.other W28 (Ne.symm nec))
  obtain ⟨cl33, Ar33, q33, S33, M33, H33, G33⟩ := id f32
  have hin33 : ¬ ((0 : Int32) < 0 ∨ cl33.slots.size ≤ ((0 : Int32)).toNatClampNeg) := inb_of S33 ⟨by decide, by decide⟩
  obtain ⟨T34, h34, X34, e34, W34, st34⟩ := stJ X31 hx hZ e31 Ar33 (j := (0 : Int32)) hin33 (g := (mkF m 148 #[.val (.ref oa), .val (.long qe), .second, .val (.long qc), .second, .val (.int (0 : Int32))] [(.long qc), (.int (0 : Int32)), (.ref ca)])) rfl rfl (hb hby d4_148)
  have N34 := Fr.snoc X34 N28 gc
  have Zs35 : n0 ≤ h34.size := by rw [W34.size]; exact Zs29
  have V34 : Arv Z h34 ca kC .long (16 : Int32) [(.long qc), (.long (0 : Int64)), (.long (0 : Int64)), (.long (0 : Int64))] (.long (0 : Int64)) := Arv.set Ar33 q33 S33 M33 H33 G33 rfl W34 0 rfl (Nat.le_of_ble_eq_true rfl)
  have f36 := (((f19.keep K22 (ninS nac nin0)).other W28 (Or.inl nae)).other W34 (Or.inl nac))
  obtain ⟨T37, X37, e37, st37⟩ := getF X34 hx hZ hown (host := "") (Or.inl (hw _ (List.mem_of_getElem? (i := 19) rfl))) Via.refl e34 f36 (g := (mkF m 151 #[.val (.ref oa), .val (.long qe), .second, .val (.long qc), .second, .val (.int (0 : Int32))] [(.ref oa), (.ref oa)])) rfl rfl (hb hby d4_151)
  have f38 := ((((Ea.keep K14).keep K22).wr W28).wr W34)
  obtain ⟨T39, h39, X39, e39, W39, st39⟩ := putF X37 hx hZ hown (host := "") (Or.inl (hw _ (List.mem_of_getElem? (i := 19) rfl))) Via.refl e37 f36 f38 (Or.inl (hw _ (List.mem_of_getElem? (i := 20) rfl))) (hw _ (List.mem_of_getElem? (i := 1) rfl)) (ty := .int) (by decide) rfl rfl (g := (mkF m 156 #[.val (.ref oa), .val (.long qe), .second, .val (.long qc), .second, .val (.int (0 : Int32))] [(.int (1 : Int32)), (.ref oa)])) rfl rfl (hb hby d4_156)
  have N39 := Fr.snoc X39 N34 ga
  have Zs40 : n0 ≤ h39.size := by rw [W39.size]; exact Zs35
  have Fw39 := f36.same W39
  obtain ⟨fs, hr, hrun, hended, hW, hsame⟩ := X39.leave (v := none) (fun _ => rfl)
  refine ⟨_, _, pre5 _ ?_, hrun, hended, _, _, rfl, ?_, ⟨_, rfl⟩, hW, hsame.mono (by decide) (by decide)⟩
  · show Steps p.tables e below (T3.setTop (mkF m 13 #[.val (.ref oa), .val (.long qe), .second, .val (.long qc), .second, .unset] [(.int (-1 : Int32))])) _
    refine XS.istore X3.here hx rfl (hb hby d4_13) rfl (l' := #[.val (.ref oa), .val (.long qe), .second, .val (.long qc), .second, .val (.int (-1 : Int32))]) rfl ?_
    show Steps p.tables e below (T3.setTop (mkF m 15 #[.val (.ref oa), .val (.long qe), .second, .val (.long qc), .second, .val (.int (-1 : Int32))] [])) _
    refine XS.iload X3.here hx rfl (hb hby d4_15) rfl ?_
    show Steps p.tables e below (T3.setTop (mkF m 17 #[.val (.ref oa), .val (.long qe), .second, .val (.long qc), .second, .val (.int (-1 : Int32))] [(.int (-1 : Int32))])) _
    refine XS.ifYes X3.here hx rfl (pc0 := 17) (pc' := 32) rfl (hb hby d4_17) rfl (own_if (own_tlt (a := (-1 : Int32)) (b := (0 : Int32)) (by decide) (by decide) hc17_6).1) (by decide) (by decide) ?_
    show Steps p.tables e below (T3.setTop (mkF m 32 #[.val (.ref oa), .val (.long qe), .second, .val (.long qc), .second, .val (.int (-1 : Int32))] [])) _
    refine XS.iload X3.here hx rfl (hb hby d4_32) rfl ?_
    show Steps p.tables e below (T3.setTop (mkF m 34 #[.val (.ref oa), .val (.long qe), .second, .val (.long qc), .second, .val (.int (-1 : Int32))] [(.int (-1 : Int32))])) _
    refine XS.ineg X3.here hx rfl (hb hby d4_34) rfl ?_
    show Steps p.tables e below (T3.setTop (mkF m 35 #[.val (.ref oa), .val (.long qe), .second, .val (.long qc), .second, .val (.int (-1 : Int32))] [(.int (1 : Int32))])) _
    refine XS.iconst X3.here hx rfl (hb hby d4_35) ?_
    show Steps p.tables e below (T3.setTop (mkF m 36 #[.val (.ref oa), .val (.long qe), .second, .val (.long qc), .second, .val (.int (-1 : Int32))] [(.int (1 : Int32)), (.int (1 : Int32))])) _
    refine XS.isub X3.here hx rfl (hb hby d4_36) rfl ?_
    show Steps p.tables e below (T3.setTop (mkF m 37 #[.val (.ref oa), .val (.long qe), .second, .val (.long qc), .second, .val (.int (-1 : Int32))] [(.int (0 : Int32))])) _
    refine XS.istore X3.here hx rfl (hb hby d4_37) rfl (l' := #[.val (.ref oa), .val (.long qe), .second, .val (.long qc), .second, .val (.int (0 : Int32))]) rfl ?_
    show Steps p.tables e below (T3.setTop (mkF m 39 #[.val (.ref oa), .val (.long qe), .second, .val (.long qc), .second, .val (.int (0 : Int32))] [])) _
    refine XS.aloadN X3.here hx rfl (hb hby d4_39) rfl rfl ?_
    show Steps p.tables e below (T3.setTop (mkF m 40 #[.val (.ref oa), .val (.long qe), .second, .val (.long qc), .second, .val (.int (0 : Int32))] [(.ref oa)])) _
    refine st7 _ ?_
    show Steps p.tables e below (T7.setTop (mkF m 43 #[.val (.ref oa), .val (.long qe), .second, .val (.long qc), .second, .val (.int (0 : Int32))] [(.int (0 : Int32))])) _
    refine XS.aloadN X7.here hx rfl (hb hby d4_43) rfl rfl ?_
    show Steps p.tables e below (T7.setTop (mkF m 44 #[.val (.ref oa), .val (.long qe), .second, .val (.long qc), .second, .val (.int (0 : Int32))] [(.ref oa), (.int (0 : Int32))])) _
    refine st8 _ ?_
    show Steps p.tables e below (T8.setTop (mkF m 47 #[.val (.ref oa), .val (.long qe), .second, .val (.long qc), .second, .val (.int (0 : Int32))] [(.ref ea), (.int (0 : Int32))])) _
    refine X8.arraylength hx (by rw [e8]; exact Ar9.1) (State.isArrayOf_alike hZ.alike Ar9.2.1) (g := (mkF m 47 #[.val (.ref oa), .val (.long qe), .second, .val (.long qc), .second, .val (.int (0 : Int32))] [(.ref ea), (.int (0 : Int32))])) rfl rfl (hb hby d4_47) _ ?_
    rw [len_of S9 M9]
    show Steps p.tables e below (T8.setTop (mkF m 48 #[.val (.ref oa), .val (.long qe), .second, .val (.long qc), .second, .val (.int (0 : Int32))] [(.int (16 : Int32)), (.int (0 : Int32))])) _
    refine XS.icmpYes X8.here hx rfl (pc0 := 48) (pc' := 85) rfl (hb hby d4_48) rfl (own_feq (a := (0 : Int32)) (b := (16 : Int32)) (by decide) (by decide) hc48_10).2 (by decide) (by decide) ?_
    show Steps p.tables e below (T8.setTop (mkF m 85 #[.val (.ref oa), .val (.long qe), .second, .val (.long qc), .second, .val (.int (0 : Int32))] [])) _
    refine XS.aloadN X8.here hx rfl (hb hby d4_85) rfl rfl ?_
    show Steps p.tables e below (T8.setTop (mkF m 86 #[.val (.ref oa), .val (.long qe), .second, .val (.long qc), .second, .val (.int (0 : Int32))] [(.ref oa)])) _
    refine st11 _ ?_
    show Steps p.tables e below (T11.setTop (mkF m 89 #[.val (.ref oa), .val (.long qe), .second, .val (.long qc), .second, .val (.int (0 : Int32))] [(.ref ea)])) _
    refine XS.iload X11.here hx rfl (hb hby d4_89) rfl ?_
    show Steps p.tables e below (T11.setTop (mkF m 91 #[.val (.ref oa), .val (.long qe), .second, .val (.long qc), .second, .val (.int (0 : Int32))] [(.int (0 : Int32)), (.ref ea)])) _
    refine XS.aloadN X11.here hx rfl (hb hby d4_91) rfl rfl ?_
    show Steps p.tables e below (T11.setTop (mkF m 92 #[.val (.ref oa), .val (.long qe), .second, .val (.long qc), .second, .val (.int (0 : Int32))] [(.ref oa), (.int (0 : Int32)), (.ref ea)])) _
    refine st12 _ ?_
    show Steps p.tables e below (T12.setTop (mkF m 95 #[.val (.ref oa), .val (.long qe), .second, .val (.long qc), .second, .val (.int (0 : Int32))] [(.ref ea), (.int (0 : Int32)), (.ref ea)])) _
    refine XS.iload X12.here hx rfl (hb hby d4_95) rfl ?_
    show Steps p.tables e below (T12.setTop (mkF m 97 #[.val (.ref oa), .val (.long qe), .second, .val (.long qc), .second, .val (.int (0 : Int32))] [(.int (0 : Int32)), (.ref ea), (.int (0 : Int32)), (.ref ea)])) _
    refine XS.iconst X12.here hx rfl (hb hby d4_97) ?_
    show Steps p.tables e below (T12.setTop (mkF m 98 #[.val (.ref oa), .val (.long qe), .second, .val (.long qc), .second, .val (.int (0 : Int32))] [(.int (1 : Int32)), (.int (0 : Int32)), (.ref ea), (.int (0 : Int32)), (.ref ea)])) _
    refine XS.iadd X12.here hx rfl (hb hby d4_98) rfl ?_
    show Steps p.tables e below (T12.setTop (mkF m 99 #[.val (.ref oa), .val (.long qe), .second, .val (.long qc), .second, .val (.int (0 : Int32))] [(.int (1 : Int32)), (.ref ea), (.int (0 : Int32)), (.ref ea)])) _
    refine XS.aloadN X12.here hx rfl (hb hby d4_99) rfl rfl ?_
    show Steps p.tables e below (T12.setTop (mkF m 100 #[.val (.ref oa), .val (.long qe), .second, .val (.long qc), .second, .val (.int (0 : Int32))] [(.ref oa), (.int (1 : Int32)), (.ref ea), (.int (0 : Int32)), (.ref ea)])) _
    refine st13 _ ?_
    show Steps p.tables e below (T13.setTop (mkF m 103 #[.val (.ref oa), .val (.long qe), .second, .val (.long qc), .second, .val (.int (0 : Int32))] [(.int (0 : Int32)), (.int (1 : Int32)), (.ref ea), (.int (0 : Int32)), (.ref ea)])) _
    refine XS.iload X13.here hx rfl (hb hby d4_103) rfl ?_
    show Steps p.tables e below (T13.setTop (mkF m 105 #[.val (.ref oa), .val (.long qe), .second, .val (.long qc), .second, .val (.int (0 : Int32))] [(.int (0 : Int32)), (.int (0 : Int32)), (.int (1 : Int32)), (.ref ea), (.int (0 : Int32)), (.ref ea)])) _
    refine XS.isub X13.here hx rfl (hb hby d4_105) rfl ?_
    show Steps p.tables e below (T13.setTop (mkF m 106 #[.val (.ref oa), .val (.long qe), .second, .val (.long qc), .second, .val (.int (0 : Int32))] [(.int (0 : Int32)), (.int (1 : Int32)), (.ref ea), (.int (0 : Int32)), (.ref ea)])) _
    refine st14 _ ?_
    show Steps p.tables e below (T14.setTop (mkF m 109 #[.val (.ref oa), .val (.long qe), .second, .val (.long qc), .second, .val (.int (0 : Int32))] [])) _
    refine XS.aloadN X14.here hx rfl (hb hby d4_109) rfl rfl ?_
    show Steps p.tables e below (T14.setTop (mkF m 110 #[.val (.ref oa), .val (.long qe), .second, .val (.long qc), .second, .val (.int (0 : Int32))] [(.ref oa)])) _
    refine st17 _ ?_
    show Steps p.tables e below (T17.setTop (mkF m 113 #[.val (.ref oa), .val (.long qe), .second, .val (.long qc), .second, .val (.int (0 : Int32))] [(.ref ca)])) _
    refine XS.iload X17.here hx rfl (hb hby d4_113) rfl ?_
    show Steps p.tables e below (T17.setTop (mkF m 115 #[.val (.ref oa), .val (.long qe), .second, .val (.long qc), .second, .val (.int (0 : Int32))] [(.int (0 : Int32)), (.ref ca)])) _
    refine XS.aloadN X17.here hx rfl (hb hby d4_115) rfl rfl ?_
    show Steps p.tables e below (T17.setTop (mkF m 116 #[.val (.ref oa), .val (.long qe), .second, .val (.long qc), .second, .val (.int (0 : Int32))] [(.ref oa), (.int (0 : Int32)), (.ref ca)])) _
    refine st18 _ ?_
    show Steps p.tables e below (T18.setTop (mkF m 119 #[.val (.ref oa), .val (.long qe), .second, .val (.long qc), .second, .val (.int (0 : Int32))] [(.ref ca), (.int (0 : Int32)), (.ref ca)])) _
    refine XS.iload X18.here hx rfl (hb hby d4_119) rfl ?_
    show Steps p.tables e below (T18.setTop (mkF m 121 #[.val (.ref oa), .val (.long qe), .second, .val (.long qc), .second, .val (.int (0 : Int32))] [(.int (0 : Int32)), (.ref ca), (.int (0 : Int32)), (.ref ca)])) _
    refine XS.iconst X18.here hx rfl (hb hby d4_121) ?_
    show Steps p.tables e below (T18.setTop (mkF m 122 #[.val (.ref oa), .val (.long qe), .second, .val (.long qc), .second, .val (.int (0 : Int32))] [(.int (1 : Int32)), (.int (0 : Int32)), (.ref ca), (.int (0 : Int32)), (.ref ca)])) _
    refine XS.iadd X18.here hx rfl (hb hby d4_122) rfl ?_
    show Steps p.tables e below (T18.setTop (mkF m 123 #[.val (.ref oa), .val (.long qe), .second, .val (.long qc), .second, .val (.int (0 : Int32))] [(.int (1 : Int32)), (.ref ca), (.int (0 : Int32)), (.ref ca)])) _
    refine XS.aloadN X18.here hx rfl (hb hby d4_123) rfl rfl ?_
    show Steps p.tables e below (T18.setTop (mkF m 124 #[.val (.ref oa), .val (.long qe), .second, .val (.long qc), .second, .val (.int (0 : Int32))] [(.ref oa), (.int (1 : Int32)), (.ref ca), (.int (0 : Int32)), (.ref ca)])) _
    refine st20 _ ?_
    show Steps p.tables e below (T20.setTop (mkF m 127 #[.val (.ref oa), .val (.long qe), .second, .val (.long qc), .second, .val (.int (0 : Int32))] [(.int (0 : Int32)), (.int (1 : Int32)), (.ref ca), (.int (0 : Int32)), (.ref ca)])) _
    refine XS.iload X20.here hx rfl (hb hby d4_127) rfl ?_
    show Steps p.tables e below (T20.setTop (mkF m 129 #[.val (.ref oa), .val (.long qe), .second, .val (.long qc), .second, .val (.int (0 : Int32))] [(.int (0 : Int32)), (.int (0 : Int32)), (.int (1 : Int32)), (.ref ca), (.int (0 : Int32)), (.ref ca)])) _
    refine XS.isub X20.here hx rfl (hb hby d4_129) rfl ?_
    show Steps p.tables e below (T20.setTop (mkF m 130 #[.val (.ref oa), .val (.long qe), .second, .val (.long qc), .second, .val (.int (0 : Int32))] [(.int (0 : Int32)), (.int (1 : Int32)), (.ref ca), (.int (0 : Int32)), (.ref ca)])) _
    refine st22 _ ?_
    show Steps p.tables e below (T22.setTop (mkF m 133 #[.val (.ref oa), .val (.long qe), .second, .val (.long qc), .second, .val (.int (0 : Int32))] [])) _
    refine XS.aloadN X22.here hx rfl (hb hby d4_133) rfl rfl ?_
    show Steps p.tables e below (T22.setTop (mkF m 134 #[.val (.ref oa), .val (.long qe), .second, .val (.long qc), .second, .val (.int (0 : Int32))] [(.ref oa)])) _
    refine st25 _ ?_
    show Steps p.tables e below (T25.setTop (mkF m 137 #[.val (.ref oa), .val (.long qe), .second, .val (.long qc), .second, .val (.int (0 : Int32))] [(.ref ea)])) _
    refine XS.iload X25.here hx rfl (hb hby d4_137) rfl ?_
    show Steps p.tables e below (T25.setTop (mkF m 139 #[.val (.ref oa), .val (.long qe), .second, .val (.long qc), .second, .val (.int (0 : Int32))] [(.int (0 : Int32)), (.ref ea)])) _
    refine XS.lloadN X25.here hx rfl (hb hby d4_139) rfl ?_
    show Steps p.tables e below (T25.setTop (mkF m 140 #[.val (.ref oa), .val (.long qe), .second, .val (.long qc), .second, .val (.int (0 : Int32))] [(.long qe), (.int (0 : Int32)), (.ref ea)])) _
    refine st28 _ ?_
    show Steps p.tables e below (T28.setTop (mkF m 141 #[.val (.ref oa), .val (.long qe), .second, .val (.long qc), .second, .val (.int (0 : Int32))] [])) _
    refine XS.aloadN X28.here hx rfl (hb hby d4_141) rfl rfl ?_
    show Steps p.tables e below (T28.setTop (mkF m 142 #[.val (.ref oa), .val (.long qe), .second, .val (.long qc), .second, .val (.int (0 : Int32))] [(.ref oa)])) _
    refine st31 _ ?_
    show Steps p.tables e below (T31.setTop (mkF m 145 #[.val (.ref oa), .val (.long qe), .second, .val (.long qc), .second, .val (.int (0 : Int32))] [(.ref ca)])) _
    refine XS.iload X31.here hx rfl (hb hby d4_145) rfl ?_
    show Steps p.tables e below (T31.setTop (mkF m 147 #[.val (.ref oa), .val (.long qe), .second, .val (.long qc), .second, .val (.int (0 : Int32))] [(.int (0 : Int32)), (.ref ca)])) _
    refine XS.lloadN X31.here hx rfl (hb hby d4_147) rfl ?_
    show Steps p.tables e below (T31.setTop (mkF m 148 #[.val (.ref oa), .val (.long qe), .second, .val (.long qc), .second, .val (.int (0 : Int32))] [(.long qc), (.int (0 : Int32)), (.ref ca)])) _
    refine st34 _ ?_
    show Steps p.tables e below (T34.setTop (mkF m 149 #[.val (.ref oa), .val (.long qe), .second, .val (.long qc), .second, .val (.int (0 : Int32))] [])) _
    refine XS.aloadN X34.here hx rfl (hb hby d4_149) rfl rfl ?_
    show Steps p.tables e below (T34.setTop (mkF m 150 #[.val (.ref oa), .val (.long qe), .second, .val (.long qc), .second, .val (.int (0 : Int32))] [(.ref oa)])) _
    refine XS.dup X34.here hx rfl (hb hby d4_150) rfl rfl ?_
    show Steps p.tables e below (T34.setTop (mkF m 151 #[.val (.ref oa), .val (.long qe), .second, .val (.long qc), .second, .val (.int (0 : Int32))] [(.ref oa), (.ref oa)])) _
    refine st37 _ ?_
    show Steps p.tables e below (T37.setTop (mkF m 154 #[.val (.ref oa), .val (.long qe), .second, .val (.long qc), .second, .val (.int (0 : Int32))] [(.int (0 : Int32)), (.ref oa)])) _
    refine XS.iconst X37.here hx rfl (hb hby d4_154) ?_
    show Steps p.tables e below (T37.setTop (mkF m 155 #[.val (.ref oa), .val (.long qe), .second, .val (.long qc), .second, .val (.int (0 : Int32))] [(.int (1 : Int32)), (.int (0 : Int32)), (.ref oa)])) _
    refine XS.iadd X37.here hx rfl (hb hby d4_155) rfl ?_
    show Steps p.tables e below (T37.setTop (mkF m 156 #[.val (.ref oa), .val (.long qe), .second, .val (.long qc), .second, .val (.int (0 : Int32))] [(.int (1 : Int32)), (.ref oa)])) _
    refine st39 _ ?_
    show Steps p.tables e below (T39.setTop (mkF m 159 #[.val (.ref oa), .val (.long qe), .second, .val (.long qc), .second, .val (.int (0 : Int32))] [])) _
    exact X39.returnOut hx Bd.returns (hb hby d4_159) hr
  · show Q_add0 Z oa qe qc ea ca kE kC h0 n0 _ T39.heap _
    rw [e39]
    have f41 := ((((((Keep.refl h0 [oa, ea, ca]).trans K14 (allS (P := fun x => x ∈ [oa, ea, ca] ∨ h0.size ≤ x) (Or.inl (List.mem_of_getElem? (i := 1) rfl)) all0)).trans K22 (allS (P := fun x => x ∈ [oa, ea, ca] ∨ h0.size ≤ x) (Or.inl (List.mem_of_getElem? (i := 2) rfl)) all0)).wr W28 (Or.inl (List.mem_of_getElem? (i := 1) rfl))).wr W34 (Or.inl (List.mem_of_getElem? (i := 2) rfl))).wr W39 (Or.inl (List.mem_of_getElem? (i := 0) rfl)))
    have f42 := (f38.wr W39)
    have f43 := (((f24.other W28 (Or.inl nae)).other W34 (Or.inl nac)).other W39 (Or.inr (slot_ne (Or.inl (hw _ (List.mem_of_getElem? (i := 11) rfl))) (Or.inl (hw _ (List.mem_of_getElem? (i := 20) rfl))) (by decide) (t := (.array .long)) (t' := .int) (by decide) (by decide))))
    have f44 := ((f30.other W34 (Or.inl nac)).other W39 (Or.inr (slot_ne (Or.inl (hw _ (List.mem_of_getElem? (i := 13) rfl))) (Or.inl (hw _ (List.mem_of_getElem? (i := 20) rfl))) (by decide) (t := (.array .long)) (t' := .int) (by decide) (by decide))))
    have f45 := ((V28.other W34 nec).other W39 (Ne.symm nae))
    have f46 := (V34.other W39 (Ne.symm nac))
    exact ⟨rfl, N39, f41, f42, f43, f44, ⟨qe, qc, Fw39, f45, f46, by omega, by omega, fun s => by omega⟩⟩
theorem d4_20 : decode prog_20_method_2_code 20 = .ok (.aload_n 0, 1) := by decide +kernel
theorem d4_21 : decode prog_20_method_2_code 21 = .ok (.getfield 13, 3) := by decide +kernel
theorem d4_24 : decode prog_20_method_2_code 24 = .ok (.iload 5, 2) := by decide +kernel
theorem d4_26 : decode prog_20_method_2_code 26 = .ok (.dup2, 1) := by decide +kernel
theorem d4_27 : decode prog_20_method_2_code 27 = .ok (.laload, 1) := by decide +kernel
theorem d4_28 : decode prog_20_method_2_code 28 = .ok (.lload_n 3, 1) := by decide +kernel
theorem d4_29 : decode prog_20_method_2_code 29 = .ok (.ladd, 1) := by decide +kernel
theorem d4_30 : decode prog_20_method_2_code 30 = .ok (.lastore, 1) := by decide +kernel
theorem d4_31 : decode prog_20_method_2_code 31 = .ok (.return_, 1) := by decide +kernel
theorem ef_rm_add1 (m : MethodId) (x0 : Addr) (x1 : Int64) (x2 : Int64) : entryFrame m #[(.ref x0), (.long x1), (.long x2)] 6 = mkF m 0 #[.val (.ref x0), .val (.long x1), .second, .val (.long x2), .second, .unset] [] := by first | (simp [entryFrame, mkF, argsToLocals, Value.category]; done) | rfl
def Q_add1 (Z : State) (oa : Addr) (qe : Int64) (qc : Int64) (ea : Addr) (ca : Addr) (kE : ClassId) (kC : ClassId) (x0 : Int64) (c0 : Int64) (h0 : Heap) (n0 : Nat) (v : Option Value) (h : Heap) (L : List Loc) : Prop := v = none ∧ Fr n0 L ∧ Keep h0 h [oa, ea, ca] ∧ Exa Z h oa "com/example/foreslot/foreslot/CountsByEnd" ∧ Fld Z h oa "com/example/foreslot/foreslot/CountsByEnd" "ends" "[J" (.ref ea) ∧ Fld Z h oa "com/example/foreslot/foreslot/CountsByEnd" "counts" "[J" (.ref ca) ∧ ((∃ y0 d0 : Int64, Fld Z h oa "com/example/foreslot/foreslot/CountsByEnd" "size" "I" (.int (1 : Int32)) ∧ Arv Z h ea kE .long (16 : Int32) [(.long y0), (.long (0 : Int64)), (.long (0 : Int64)), (.long (0 : Int64))] (.long (0 : Int64)) ∧ Arv Z h ca kC .long (16 : Int32) [(.long d0), (.long (0 : Int64)), (.long (0 : Int64)), (.long (0 : Int64))] (.long (0 : Int64)) ∧ 1 ≤ d0.toInt ∧ d0.toInt = c0.toInt + qc.toInt ∧ (∀ s : Int, own_f y0.toInt s d0.toInt = own_f x0.toInt s c0.toInt + own_f qe.toInt s qc.toInt)) ∨ (∃ y0 y1 d0 d1 : Int64, Fld Z h oa "com/example/foreslot/foreslot/CountsByEnd" "size" "I" (.int (2 : Int32)) ∧ Arv Z h ea kE .long (16 : Int32) [(.long y0), (.long y1), (.long (0 : Int64)), (.long (0 : Int64))] (.long (0 : Int64)) ∧ Arv Z h ca kC .long (16 : Int32) [(.long d0), (.long d1), (.long (0 : Int64)), (.long (0 : Int64))] (.long (0 : Int64)) ∧ y0.toInt < y1.toInt ∧ 1 ≤ d0.toInt ∧ 1 ≤ d1.toInt ∧ d0.toInt + d1.toInt = c0.toInt + qc.toInt ∧ (∀ s : Int, own_f y0.toInt s d0.toInt + own_f y1.toInt s d1.toInt = own_f x0.toInt s c0.toInt + own_f qe.toInt s qc.toInt)))
set_option maxRecDepth 65536 in
set_option maxHeartbeats 40000000 in
theorem rm_add1 (l : Launch) (Z : State) (a0 : Array Value) (hw : ∀ d ∈ tables_1, d.before a0 Z = true) (ws : List Jvm.Cond) (oa : Addr) (qe : Int64) (qc : Int64) (ea : Addr) (ca : Addr) (kE : ClassId) (kC : ClassId) (x0 : Int64) (c0 : Int64) (h0 : Heap) (n0 : Nat) (Z0 : n0 ≤ h0.size) (Ea : Exa Z h0 oa "com/example/foreslot/foreslot/CountsByEnd") (F0 : Fld Z h0 oa "com/example/foreslot/foreslot/CountsByEnd" "ends" "[J" (.ref ea)) (F1 : Fld Z h0 oa "com/example/foreslot/foreslot/CountsByEnd" "counts" "[J" (.ref ca)) (F2 : Fld Z h0 oa "com/example/foreslot/foreslot/CountsByEnd" "size" "I" (.int (1 : Int32))) (V0 : Arv Z h0 ea kE .long (16 : Int32) [(.long x0), (.long (0 : Int64)), (.long (0 : Int64)), (.long (0 : Int64))] (.long (0 : Int64))) (V1 : Arv Z h0 ca kC .long (16 : Int32) [(.long c0), (.long (0 : Int64)), (.long (0 : Int64)), (.long (0 : Int64))] (.long (0 : Int64))) (ga : n0 ≤ oa) (ge : n0 ≤ ea) (gc : n0 ≤ ca) (nae : oa ≠ ea) (nac : oa ≠ ca) (nec : ea ≠ ca) (kc0 : 1 ≤ c0.toInt) (kq : 1 ≤ qc.toInt) (kt : c0.toInt + qc.toInt ≤ 100000) :
    MetFree l (⟨"com/example/foreslot/foreslot/CountsByEnd", "add", "(JJ)V"⟩ : MethodName) (head1 (Jvm.Cond.code (⟨"com/example/foreslot/foreslot/CountsByEnd", "add", "(JJ)V"⟩ : MethodName) prog_20_method_2_code 6 none :: ws) ({ frames := 2, cells := 0, slots := 0, locals := 37 } : Room)) (fun a U => a = #[(.ref oa), (.long qe), (.long qc)] ∧ Z.Warmed39 U.vm ∧ U.heap = h0) (fun _ _ _ _ _ => True) (fun _ U o U' => ∃ v L, o = .returned v ∧ Q_add1 Z oa qe qc ea ca kE kC x0 c0 h0 n0 v U'.heap L ∧ FrameEnd U o U' L ({ frames := 2, cells := 0, slots := 0, locals := 37 } : Room).cells ({ frames := 2, cells := 0, slots := 0, locals := 37 } : Room).slots) := by
  refine MetFree.of_bodySF (plainFor_of_name pn_1) hisR ?_
  intro p e s m args below meth c s₁ Bd hml0 hP hK
  obtain ⟨rfl, hZ, hh⟩ := hP
  have hx := Bd.exec
  have hby := Bd.bytes
  have hml : c.maxLocals = 6 := hml0
  have hown : s.vm.findClass "com/example/foreslot/foreslot/CountsByEnd" = some m.cls := findClass_of_methodNamed Bd.named
  have hnm := (name_of_methodNamed Bd.named Bd.method).1
  have X0 : Stand p l e ({ frames := 2, cells := 0, slots := 0, locals := 37 } : Room) s m #[(.ref oa), (.long qe), (.long qc)] below meth c s₁ [] 0 0 := Stand.of_body Bd
  have e0 : s₁.heap = h0 := by rw [← hh, Bd.state]; rfl
  have N0 := Fr.nil n0
  have pre0 : ∀ t, Steps p.tables e below (s₁.setTop (mkF m 0 #[.val (.ref oa), .val (.long qe), .second, .val (.long qc), .second, .unset] [])) t → Steps p.tables e below (s₁.setTop (entryFrame m #[(.ref oa), (.long qe), (.long qc)] 6)) t := fun t k => castTop (ef_rm_add1 m oa qe qc) k
  obtain ⟨T1, X1, e1, st1⟩ := getF X0 hx hZ hown (host := "") (Or.inl (hw _ (List.mem_of_getElem? (i := 10) rfl))) Via.refl e0 F0 (g := (mkF m 1 #[.val (.ref oa), .val (.long qe), .second, .val (.long qc), .second, .unset] [(.ref oa)])) rfl rfl (hb hby d4_1)
  obtain ⟨T2, X2, e2, st2⟩ := getF X1 hx hZ hown (host := "") (Or.inl (hw _ (List.mem_of_getElem? (i := 19) rfl))) Via.refl e1 F2 (g := (mkF m 6 #[.val (.ref oa), .val (.long qe), .second, .val (.long qc), .second, .unset] [(.ref oa), (.int (0 : Int32)), (.ref ea)])) rfl rfl (hb hby d4_6)
  obtain ⟨_, _, ⟨T3, L3, k3, n3⟩, -, X3, ⟨Lc3, hQ3, l3, y3, z3⟩, st3⟩ := Jvm.LawKit.callS X2 hx (y := (⟨"java/util/Arrays", "binarySearch", "([JIIJ)I"⟩ : MethodName)) hown (mvT hZ (hw _ (List.mem_of_getElem? (i := 26) rfl))) (mvT hZ (hw _ (List.mem_of_getElem? (i := 27) rfl))) (mvT hZ (hw _ (List.mem_of_getElem? (i := 28) rfl))) (mvT hZ (hw _ (List.mem_of_getElem? (i := 29) rfl))) (by decide) (backOf (W := 0) (rm_bs1 l Z a0 hw [] ea qe kE x0 h0 n0 Z0 V0) hZ (hw _ (List.mem_of_getElem? (i := 29) rfl)) (hw _ (List.mem_of_getElem? (i := 28) rfl)) (by decide) (by decide)) (g := (mkF m 10 #[.val (.ref oa), .val (.long qe), .second, .val (.long qc), .second, .unset] [(.long qe), (.int (1 : Int32)), (.int (0 : Int32)), (.ref ea)])) rfl (by rw [hml]; rfl) (argsL := [(.ref ea), (.int (0 : Int32)), (.int (1 : Int32)), (.long qe)]) (rest := []) (lenOf pd_1 rfl) rfl (by show 2 * 0 + _ ≤ _; exact Nat.le_of_eq rfl) (hb hby d4_10) (fun _ _ => ⟨rfl, e2, (by decide : 0 + 0 ≤ _), (by decide : 0 + 0 ≤ _)⟩)
  dsimp only [Pt.U, Pt.locs, Pt.cells, Pt.slots] at X3 l3 y3 z3 st3 hQ3
  subst l3 y3 z3
  obtain ⟨rb, rfl, hrb, N3q, e3⟩ := hQ3
  have N3 := Fr.app N0 N3q
  have pre4 : ∀ t, Steps p.tables e below (T3.setTop (mkF m 13 #[.val (.ref oa), .val (.long qe), .second, .val (.long qc), .second, .unset] [(.int rb)])) t → Steps p.tables e below (s₁.setTop (entryFrame m #[(.ref oa), (.long qe), (.long qc)] 6)) t := fun t kt => by
    refine pre0 _ ?_
    show Steps p.tables e below (s₁.setTop (mkF m 0 #[.val (.ref oa), .val (.long qe), .second, .val (.long qc), .second, .unset] [])) _
    refine XS.aloadN X0.here hx rfl (hb hby d4_0) rfl rfl ?_
    show Steps p.tables e below (s₁.setTop (mkF m 1 #[.val (.ref oa), .val (.long qe), .second, .val (.long qc), .second, .unset] [(.ref oa)])) _
    refine st1 _ ?_
    show Steps p.tables e below (T1.setTop (mkF m 4 #[.val (.ref oa), .val (.long qe), .second, .val (.long qc), .second, .unset] [(.ref ea)])) _
    refine XS.iconst X1.here hx rfl (hb hby d4_4) ?_
    show Steps p.tables e below (T1.setTop (mkF m 5 #[.val (.ref oa), .val (.long qe), .second, .val (.long qc), .second, .unset] [(.int (0 : Int32)), (.ref ea)])) _
    refine XS.aloadN X1.here hx rfl (hb hby d4_5) rfl rfl ?_
    show Steps p.tables e below (T1.setTop (mkF m 6 #[.val (.ref oa), .val (.long qe), .second, .val (.long qc), .second, .unset] [(.ref oa), (.int (0 : Int32)), (.ref ea)])) _
    refine st2 _ ?_
    show Steps p.tables e below (T2.setTop (mkF m 9 #[.val (.ref oa), .val (.long qe), .second, .val (.long qc), .second, .unset] [(.int (1 : Int32)), (.int (0 : Int32)), (.ref ea)])) _
    refine XS.lloadN X2.here hx rfl (hb hby d4_9) rfl ?_
    show Steps p.tables e below (T2.setTop (mkF m 10 #[.val (.ref oa), .val (.long qe), .second, .val (.long qc), .second, .unset] [(.long qe), (.int (1 : Int32)), (.int (0 : Int32)), (.ref ea)])) _
    refine st3 _ ?_
    exact kt
  rcases hrb with ⟨rfl, hq⟩ | ⟨rfl, hq⟩ | ⟨rfl, hq⟩
  · have pre5 : ∀ t, Steps p.tables e below (T3.setTop (mkF m 13 #[.val (.ref oa), .val (.long qe), .second, .val (.long qc), .second, .unset] [(.int (0 : Int32))])) t → Steps p.tables e below (s₁.setTop (entryFrame m #[(.ref oa), (.long qe), (.long qc)] 6)) t := pre4
    have hc17_6 : ¬ ((0 : Int) < (0 : Int)) := by decide
    obtain ⟨T7, X7, e7, st7⟩ := getF X3 hx hZ hown (host := "") (Or.inl (hw _ (List.mem_of_getElem? (i := 12) rfl))) Via.refl e3 F1 (g := (mkF m 21 #[.val (.ref oa), .val (.long qe), .second, .val (.long qc), .second, .val (.int (0 : Int32))] [(.ref oa)])) rfl rfl (hb hby d4_21)
    obtain ⟨cl8, Ar8, q8, S8, M8, H8, G8⟩ := id V1
    have hin8 : ¬ ((0 : Int32) < 0 ∨ cl8.slots.size ≤ ((0 : Int32)).toNatClampNeg) := inb_of S8 ⟨by decide, by decide⟩
    have hat8 : cl8.slots[((0 : Int32)).toNatClampNeg]? = some (.long c0) := Has.at H8 hin8 rfl
    obtain ⟨cl9, Ar9, q9, S9, M9, H9, G9⟩ := id V1
    have hin9 : ¬ ((0 : Int32) < 0 ∨ cl9.slots.size ≤ ((0 : Int32)).toNatClampNeg) := inb_of S9 ⟨by decide, by decide⟩
    obtain ⟨T10, h10, X10, e10, W10, st10⟩ := stJ X7 hx hZ e7 Ar9 (j := (0 : Int32)) hin9 (g := (mkF m 30 #[.val (.ref oa), .val (.long qe), .second, .val (.long qc), .second, .val (.int (0 : Int32))] [(.long (c0 + qc)), (.int (0 : Int32)), (.ref ca)])) rfl rfl (hb hby d4_30)
    have N10 := Fr.snoc X10 N3 gc
    have Zs11 : n0 ≤ h10.size := by rw [W10.size]; exact Z0
    have V10 : Arv Z h10 ca kC .long (16 : Int32) [(.long (c0 + qc)), (.long (0 : Int64)), (.long (0 : Int64)), (.long (0 : Int64))] (.long (0 : Int64)) := Arv.set Ar9 q9 S9 M9 H9 G9 rfl W10 0 rfl (Nat.le_of_ble_eq_true rfl)
    obtain ⟨fs, hr, hrun, hended, hW, hsame⟩ := X10.leave (v := none) (fun _ => rfl)
    refine ⟨_, _, pre5 _ ?_, hrun, hended, _, _, rfl, ?_, ⟨_, rfl⟩, hW, hsame.mono (by decide) (by decide)⟩
    · show Steps p.tables e below (T3.setTop (mkF m 13 #[.val (.ref oa), .val (.long qe), .second, .val (.long qc), .second, .unset] [(.int (0 : Int32))])) _
      refine XS.istore X3.here hx rfl (hb hby d4_13) rfl (l' := #[.val (.ref oa), .val (.long qe), .second, .val (.long qc), .second, .val (.int (0 : Int32))]) rfl ?_
      show Steps p.tables e below (T3.setTop (mkF m 15 #[.val (.ref oa), .val (.long qe), .second, .val (.long qc), .second, .val (.int (0 : Int32))] [])) _
      refine XS.iload X3.here hx rfl (hb hby d4_15) rfl ?_
      show Steps p.tables e below (T3.setTop (mkF m 17 #[.val (.ref oa), .val (.long qe), .second, .val (.long qc), .second, .val (.int (0 : Int32))] [(.int (0 : Int32))])) _
      refine XS.ifNo X3.here hx rfl (hb hby d4_17) rfl (own_if (own_flt (a := (0 : Int32)) (b := (0 : Int32)) (by decide) (by decide) hc17_6).1) ?_
      show Steps p.tables e below (T3.setTop (mkF m 20 #[.val (.ref oa), .val (.long qe), .second, .val (.long qc), .second, .val (.int (0 : Int32))] [])) _
      refine XS.aloadN X3.here hx rfl (hb hby d4_20) rfl rfl ?_
      show Steps p.tables e below (T3.setTop (mkF m 21 #[.val (.ref oa), .val (.long qe), .second, .val (.long qc), .second, .val (.int (0 : Int32))] [(.ref oa)])) _
      refine st7 _ ?_
      show Steps p.tables e below (T7.setTop (mkF m 24 #[.val (.ref oa), .val (.long qe), .second, .val (.long qc), .second, .val (.int (0 : Int32))] [(.ref ca)])) _
      refine XS.iload X7.here hx rfl (hb hby d4_24) rfl ?_
      show Steps p.tables e below (T7.setTop (mkF m 26 #[.val (.ref oa), .val (.long qe), .second, .val (.long qc), .second, .val (.int (0 : Int32))] [(.int (0 : Int32)), (.ref ca)])) _
      jvm_step X7.here [X7.here.top, hx, (hb hby d4_26), Value.category]
      show Steps p.tables e below (T7.setTop (mkF m 27 #[.val (.ref oa), .val (.long qe), .second, .val (.long qc), .second, .val (.int (0 : Int32))] [(.int (0 : Int32)), (.ref ca), (.int (0 : Int32)), (.ref ca)])) _
      refine X7.laload hx (j := (0 : Int32)) (v := (.long c0)) (by rw [e7]; exact Ar8.1) (State.isArrayOf_alike hZ.alike Ar8.2.1) Ar8.2.2 hin8 hat8 (g := (mkF m 27 #[.val (.ref oa), .val (.long qe), .second, .val (.long qc), .second, .val (.int (0 : Int32))] [(.int (0 : Int32)), (.ref ca), (.int (0 : Int32)), (.ref ca)])) rfl rfl (hb hby d4_27) _ ?_
      show Steps p.tables e below (T7.setTop (mkF m 28 #[.val (.ref oa), .val (.long qe), .second, .val (.long qc), .second, .val (.int (0 : Int32))] [(.long c0), (.int (0 : Int32)), (.ref ca)])) _
      refine XS.lloadN X7.here hx rfl (hb hby d4_28) rfl ?_
      show Steps p.tables e below (T7.setTop (mkF m 29 #[.val (.ref oa), .val (.long qe), .second, .val (.long qc), .second, .val (.int (0 : Int32))] [(.long qc), (.long c0), (.int (0 : Int32)), (.ref ca)])) _
      refine XS.ladd X7.here hx rfl (hb hby d4_29) rfl ?_
      show Steps p.tables e below (T7.setTop (mkF m 30 #[.val (.ref oa), .val (.long qe), .second, .val (.long qc), .second, .val (.int (0 : Int32))] [(.long (c0 + qc)), (.int (0 : Int32)), (.ref ca)])) _
      refine st10 _ ?_
      show Steps p.tables e below (T10.setTop (mkF m 31 #[.val (.ref oa), .val (.long qe), .second, .val (.long qc), .second, .val (.int (0 : Int32))] [])) _
      exact X10.returnOut hx Bd.returns (hb hby d4_31) hr
    · show Q_add1 Z oa qe qc ea ca kE kC x0 c0 h0 n0 _ T10.heap _
      rw [e10]
      have f12 := ((Keep.refl h0 [oa, ea, ca]).wr W10 (Or.inl (List.mem_of_getElem? (i := 2) rfl)))
      have f13 := (Ea.wr W10)
      have f14 := (F0.other W10 (Or.inl nac))
      have f15 := (F1.other W10 (Or.inl nac))
      have f16 := (F2.other W10 (Or.inl nac))
      have f17 := (V0.other W10 nec)
      have iadd : ((c0 + qc)).toInt = c0.toInt + qc.toInt := by have := rng64 c0; have := rng64 qc; have : (((c0 + qc)).toInt - (c0.toInt + qc.toInt)) % 18446744073709551616 = 0 := c_ladd c0 qc; have := rng64 (c0 + qc); omega
      exact ⟨rfl, N10, f12, f13, f14, f15, Or.inl ⟨x0, (c0 + qc), f16, f17, V10, by omega, by omega, fun s => by rw [iadd, show qe.toInt = x0.toInt from hq.symm]; unfold own_f; split <;> omega⟩⟩
  · have pre18 : ∀ t, Steps p.tables e below (T3.setTop (mkF m 13 #[.val (.ref oa), .val (.long qe), .second, .val (.long qc), .second, .unset] [(.int (-1 : Int32))])) t → Steps p.tables e below (s₁.setTop (entryFrame m #[(.ref oa), (.long qe), (.long qc)] 6)) t := pre4
    have hc17_19 : (-1 : Int) < (0 : Int) := by decide
    obtain ⟨T20, X20, e20, st20⟩ := getF X3 hx hZ hown (host := "") (Or.inl (hw _ (List.mem_of_getElem? (i := 19) rfl))) Via.refl e3 F2 (g := (mkF m 40 #[.val (.ref oa), .val (.long qe), .second, .val (.long qc), .second, .val (.int (0 : Int32))] [(.ref oa)])) rfl rfl (hb hby d4_40)
    obtain ⟨T21, X21, e21, st21⟩ := getF X20 hx hZ hown (host := "") (Or.inl (hw _ (List.mem_of_getElem? (i := 10) rfl))) Via.refl e20 F0 (g := (mkF m 44 #[.val (.ref oa), .val (.long qe), .second, .val (.long qc), .second, .val (.int (0 : Int32))] [(.ref oa), (.int (1 : Int32))])) rfl rfl (hb hby d4_44)
    obtain ⟨cl22, Ar22, q22, S22, M22, H22, G22⟩ := id V0
    have hc48_23 : ¬ ((1 : Int) = (16 : Int)) := by decide
    obtain ⟨T24, X24, e24, st24⟩ := getF X21 hx hZ hown (host := "") (Or.inl (hw _ (List.mem_of_getElem? (i := 10) rfl))) Via.refl e21 F0 (g := (mkF m 86 #[.val (.ref oa), .val (.long qe), .second, .val (.long qc), .second, .val (.int (0 : Int32))] [(.ref oa)])) rfl rfl (hb hby d4_86)
    obtain ⟨T25, X25, e25, st25⟩ := getF X24 hx hZ hown (host := "") (Or.inl (hw _ (List.mem_of_getElem? (i := 10) rfl))) Via.refl e24 F0 (g := (mkF m 92 #[.val (.ref oa), .val (.long qe), .second, .val (.long qc), .second, .val (.int (0 : Int32))] [(.ref oa), (.int (0 : Int32)), (.ref ea)])) rfl rfl (hb hby d4_92)
    obtain ⟨T26, X26, e26, st26⟩ := getF X25 hx hZ hown (host := "") (Or.inl (hw _ (List.mem_of_getElem? (i := 19) rfl))) Via.refl e25 F2 (g := (mkF m 100 #[.val (.ref oa), .val (.long qe), .second, .val (.long qc), .second, .val (.int (0 : Int32))] [(.ref oa), (.int (1 : Int32)), (.ref ea), (.int (0 : Int32)), (.ref ea)])) rfl rfl (hb hby d4_100)
    obtain ⟨T27, h27, L27, X27, e27, N27, K27, V27, st27⟩ := cpA X26 hx hZ hown (hw _ (List.mem_of_getElem? (i := 36) rfl)) (hw _ (List.mem_of_getElem? (i := 39) rfl)) (hw _ (List.mem_of_getElem? (i := 37) rfl)) (hw _ (List.mem_of_getElem? (i := 38) rfl)) e26 V0 V0 (Or.inl ⟨rfl, rfl⟩) (by decide : ¬ (0 : Int32) < 0) (by decide : ¬ (1 : Int32) < 0) (by decide : ¬ (1 : Int32) < 0) (by decide) (by decide) (us := [(.long x0)]) rfl (Nat.le_of_ble_eq_true rfl) N3 ge (g := (mkF m 106 #[.val (.ref oa), .val (.long qe), .second, .val (.long qc), .second, .val (.int (0 : Int32))] [(.int (1 : Int32)), (.int (1 : Int32)), (.ref ea), (.int (0 : Int32)), (.ref ea)])) rfl (by rw [hml]; rfl) (rest := []) rfl (hb hby d4_106) (by decide) (W := 0) (by show 2 * 0 + _ ≤ _; exact Nat.le_of_eq rfl) (by decide)
    have Zs28 : n0 ≤ h27.size := Nat.le_trans Z0 K27.1
    have Vc27 : Arv Z h27 ea kE .long (16 : Int32) [(.long x0), (.long x0), (.long (0 : Int64)), (.long (0 : Int64))] (.long (0 : Int64)) := V27
    have f29 := (F1.keep K27 (ninS nae nin0))
    obtain ⟨T30, X30, e30, st30⟩ := getF X27 hx hZ hown (host := "") (Or.inl (hw _ (List.mem_of_getElem? (i := 12) rfl))) Via.refl e27 f29 (g := (mkF m 110 #[.val (.ref oa), .val (.long qe), .second, .val (.long qc), .second, .val (.int (0 : Int32))] [(.ref oa)])) rfl rfl (hb hby d4_110)
    obtain ⟨T31, X31, e31, st31⟩ := getF X30 hx hZ hown (host := "") (Or.inl (hw _ (List.mem_of_getElem? (i := 12) rfl))) Via.refl e30 f29 (g := (mkF m 116 #[.val (.ref oa), .val (.long qe), .second, .val (.long qc), .second, .val (.int (0 : Int32))] [(.ref oa), (.int (0 : Int32)), (.ref ca)])) rfl rfl (hb hby d4_116)
    have f32 := (F2.keep K27 (ninS nae nin0))
    obtain ⟨T33, X33, e33, st33⟩ := getF X31 hx hZ hown (host := "") (Or.inl (hw _ (List.mem_of_getElem? (i := 19) rfl))) Via.refl e31 f32 (g := (mkF m 124 #[.val (.ref oa), .val (.long qe), .second, .val (.long qc), .second, .val (.int (0 : Int32))] [(.ref oa), (.int (1 : Int32)), (.ref ca), (.int (0 : Int32)), (.ref ca)])) rfl rfl (hb hby d4_124)
    have f34 := (V1.keep K27 (ninS (Ne.symm nec) nin0))
    obtain ⟨T35, h35, L35, X35, e35, N35, K35, V35, st35⟩ := cpA X33 hx hZ hown (hw _ (List.mem_of_getElem? (i := 36) rfl)) (hw _ (List.mem_of_getElem? (i := 39) rfl)) (hw _ (List.mem_of_getElem? (i := 37) rfl)) (hw _ (List.mem_of_getElem? (i := 38) rfl)) e33 f34 f34 (Or.inl ⟨rfl, rfl⟩) (by decide : ¬ (0 : Int32) < 0) (by decide : ¬ (1 : Int32) < 0) (by decide : ¬ (1 : Int32) < 0) (by decide) (by decide) (us := [(.long c0)]) rfl (Nat.le_of_ble_eq_true rfl) N27 gc (g := (mkF m 130 #[.val (.ref oa), .val (.long qe), .second, .val (.long qc), .second, .val (.int (0 : Int32))] [(.int (1 : Int32)), (.int (1 : Int32)), (.ref ca), (.int (0 : Int32)), (.ref ca)])) rfl (by rw [hml]; rfl) (rest := []) rfl (hb hby d4_130) (by decide) (W := 0) (by show 2 * 0 + _ ≤ _; exact Nat.le_of_eq rfl) (by decide)
    have Zs36 : n0 ≤ h35.size := Nat.le_trans Zs28 K35.1
    have Vc35 : Arv Z h35 ca kC .long (16 : Int32) [(.long c0), (.long c0), (.long (0 : Int64)), (.long (0 : Int64))] (.long (0 : Int64)) := V35
    have f37 := ((F0.keep K27 (ninS nae nin0)).keep K35 (ninS nac nin0))
    obtain ⟨T38, X38, e38, st38⟩ := getF X35 hx hZ hown (host := "") (Or.inl (hw _ (List.mem_of_getElem? (i := 10) rfl))) Via.refl e35 f37 (g := (mkF m 134 #[.val (.ref oa), .val (.long qe), .second, .val (.long qc), .second, .val (.int (0 : Int32))] [(.ref oa)])) rfl rfl (hb hby d4_134)
    have f39 := (Vc27.keep K35 (ninS nec nin0))
    obtain ⟨cl40, Ar40, q40, S40, M40, H40, G40⟩ := id f39
    have hin40 : ¬ ((0 : Int32) < 0 ∨ cl40.slots.size ≤ ((0 : Int32)).toNatClampNeg) := inb_of S40 ⟨by decide, by decide⟩
    obtain ⟨T41, h41, X41, e41, W41, st41⟩ := stJ X38 hx hZ e38 Ar40 (j := (0 : Int32)) hin40 (g := (mkF m 140 #[.val (.ref oa), .val (.long qe), .second, .val (.long qc), .second, .val (.int (0 : Int32))] [(.long qe), (.int (0 : Int32)), (.ref ea)])) rfl rfl (hb hby d4_140)
    have N41 := Fr.snoc X41 N35 ge
    have Zs42 : n0 ≤ h41.size := by rw [W41.size]; exact Zs36
    have V41 : Arv Z h41 ea kE .long (16 : Int32) [(.long qe), (.long x0), (.long (0 : Int64)), (.long (0 : Int64))] (.long (0 : Int64)) := Arv.set Ar40 q40 S40 M40 H40 G40 rfl W41 0 rfl (Nat.le_of_ble_eq_true rfl)
    have f43 := ((f29.keep K35 (ninS nac nin0)).other W41 (Or.inl nae))
    obtain ⟨T44, X44, e44, st44⟩ := getF X41 hx hZ hown (host := "") (Or.inl (hw _ (List.mem_of_getElem? (i := 12) rfl))) Via.refl e41 f43 (g := (mkF m 142 #[.val (.ref oa), .val (.long qe), .second, .val (.long qc), .second, .val (.int (0 : Int32))] [(.ref oa)])) rfl rfl (hb hby d4_142)
    have f45 := (Vc35.other W41 (Ne.symm nec))
    obtain ⟨cl46, Ar46, q46, S46, M46, H46, G46⟩ := id f45
    have hin46 : ¬ ((0 : Int32) < 0 ∨ cl46.slots.size ≤ ((0 : Int32)).toNatClampNeg) := inb_of S46 ⟨by decide, by decide⟩
    obtain ⟨T47, h47, X47, e47, W47, st47⟩ := stJ X44 hx hZ e44 Ar46 (j := (0 : Int32)) hin46 (g := (mkF m 148 #[.val (.ref oa), .val (.long qe), .second, .val (.long qc), .second, .val (.int (0 : Int32))] [(.long qc), (.int (0 : Int32)), (.ref ca)])) rfl rfl (hb hby d4_148)
    have N47 := Fr.snoc X47 N41 gc
    have Zs48 : n0 ≤ h47.size := by rw [W47.size]; exact Zs42
    have V47 : Arv Z h47 ca kC .long (16 : Int32) [(.long qc), (.long c0), (.long (0 : Int64)), (.long (0 : Int64))] (.long (0 : Int64)) := Arv.set Ar46 q46 S46 M46 H46 G46 rfl W47 0 rfl (Nat.le_of_ble_eq_true rfl)
    have f49 := (((f32.keep K35 (ninS nac nin0)).other W41 (Or.inl nae)).other W47 (Or.inl nac))
    obtain ⟨T50, X50, e50, st50⟩ := getF X47 hx hZ hown (host := "") (Or.inl (hw _ (List.mem_of_getElem? (i := 19) rfl))) Via.refl e47 f49 (g := (mkF m 151 #[.val (.ref oa), .val (.long qe), .second, .val (.long qc), .second, .val (.int (0 : Int32))] [(.ref oa), (.ref oa)])) rfl rfl (hb hby d4_151)
    have f51 := ((((Ea.keep K27).keep K35).wr W41).wr W47)
    obtain ⟨T52, h52, X52, e52, W52, st52⟩ := putF X50 hx hZ hown (host := "") (Or.inl (hw _ (List.mem_of_getElem? (i := 19) rfl))) Via.refl e50 f49 f51 (Or.inl (hw _ (List.mem_of_getElem? (i := 20) rfl))) (hw _ (List.mem_of_getElem? (i := 1) rfl)) (ty := .int) (by decide) rfl rfl (g := (mkF m 156 #[.val (.ref oa), .val (.long qe), .second, .val (.long qc), .second, .val (.int (0 : Int32))] [(.int (2 : Int32)), (.ref oa)])) rfl rfl (hb hby d4_156)
    have N52 := Fr.snoc X52 N47 ga
    have Zs53 : n0 ≤ h52.size := by rw [W52.size]; exact Zs48
    have Fw52 := f49.same W52
    obtain ⟨fs, hr, hrun, hended, hW, hsame⟩ := X52.leave (v := none) (fun _ => rfl)
    refine ⟨_, _, pre18 _ ?_, hrun, hended, _, _, rfl, ?_, ⟨_, rfl⟩, hW, hsame.mono (by decide) (by decide)⟩
    · show Steps p.tables e below (T3.setTop (mkF m 13 #[.val (.ref oa), .val (.long qe), .second, .val (.long qc), .second, .unset] [(.int (-1 : Int32))])) _
      refine XS.istore X3.here hx rfl (hb hby d4_13) rfl (l' := #[.val (.ref oa), .val (.long qe), .second, .val (.long qc), .second, .val (.int (-1 : Int32))]) rfl ?_
      show Steps p.tables e below (T3.setTop (mkF m 15 #[.val (.ref oa), .val (.long qe), .second, .val (.long qc), .second, .val (.int (-1 : Int32))] [])) _
      refine XS.iload X3.here hx rfl (hb hby d4_15) rfl ?_
      show Steps p.tables e below (T3.setTop (mkF m 17 #[.val (.ref oa), .val (.long qe), .second, .val (.long qc), .second, .val (.int (-1 : Int32))] [(.int (-1 : Int32))])) _
      refine XS.ifYes X3.here hx rfl (pc0 := 17) (pc' := 32) rfl (hb hby d4_17) rfl (own_if (own_tlt (a := (-1 : Int32)) (b := (0 : Int32)) (by decide) (by decide) hc17_19).1) (by decide) (by decide) ?_
      show Steps p.tables e below (T3.setTop (mkF m 32 #[.val (.ref oa), .val (.long qe), .second, .val (.long qc), .second, .val (.int (-1 : Int32))] [])) _
      refine XS.iload X3.here hx rfl (hb hby d4_32) rfl ?_
      show Steps p.tables e below (T3.setTop (mkF m 34 #[.val (.ref oa), .val (.long qe), .second, .val (.long qc), .second, .val (.int (-1 : Int32))] [(.int (-1 : Int32))])) _
      refine XS.ineg X3.here hx rfl (hb hby d4_34) rfl ?_
      show Steps p.tables e below (T3.setTop (mkF m 35 #[.val (.ref oa), .val (.long qe), .second, .val (.long qc), .second, .val (.int (-1 : Int32))] [(.int (1 : Int32))])) _
      refine XS.iconst X3.here hx rfl (hb hby d4_35) ?_
      show Steps p.tables e below (T3.setTop (mkF m 36 #[.val (.ref oa), .val (.long qe), .second, .val (.long qc), .second, .val (.int (-1 : Int32))] [(.int (1 : Int32)), (.int (1 : Int32))])) _
      refine XS.isub X3.here hx rfl (hb hby d4_36) rfl ?_
      show Steps p.tables e below (T3.setTop (mkF m 37 #[.val (.ref oa), .val (.long qe), .second, .val (.long qc), .second, .val (.int (-1 : Int32))] [(.int (0 : Int32))])) _
      refine XS.istore X3.here hx rfl (hb hby d4_37) rfl (l' := #[.val (.ref oa), .val (.long qe), .second, .val (.long qc), .second, .val (.int (0 : Int32))]) rfl ?_
      show Steps p.tables e below (T3.setTop (mkF m 39 #[.val (.ref oa), .val (.long qe), .second, .val (.long qc), .second, .val (.int (0 : Int32))] [])) _
      refine XS.aloadN X3.here hx rfl (hb hby d4_39) rfl rfl ?_
      show Steps p.tables e below (T3.setTop (mkF m 40 #[.val (.ref oa), .val (.long qe), .second, .val (.long qc), .second, .val (.int (0 : Int32))] [(.ref oa)])) _
      refine st20 _ ?_
      show Steps p.tables e below (T20.setTop (mkF m 43 #[.val (.ref oa), .val (.long qe), .second, .val (.long qc), .second, .val (.int (0 : Int32))] [(.int (1 : Int32))])) _
      refine XS.aloadN X20.here hx rfl (hb hby d4_43) rfl rfl ?_
      show Steps p.tables e below (T20.setTop (mkF m 44 #[.val (.ref oa), .val (.long qe), .second, .val (.long qc), .second, .val (.int (0 : Int32))] [(.ref oa), (.int (1 : Int32))])) _
      refine st21 _ ?_
      show Steps p.tables e below (T21.setTop (mkF m 47 #[.val (.ref oa), .val (.long qe), .second, .val (.long qc), .second, .val (.int (0 : Int32))] [(.ref ea), (.int (1 : Int32))])) _
      refine X21.arraylength hx (by rw [e21]; exact Ar22.1) (State.isArrayOf_alike hZ.alike Ar22.2.1) (g := (mkF m 47 #[.val (.ref oa), .val (.long qe), .second, .val (.long qc), .second, .val (.int (0 : Int32))] [(.ref ea), (.int (1 : Int32))])) rfl rfl (hb hby d4_47) _ ?_
      rw [len_of S22 M22]
      show Steps p.tables e below (T21.setTop (mkF m 48 #[.val (.ref oa), .val (.long qe), .second, .val (.long qc), .second, .val (.int (0 : Int32))] [(.int (16 : Int32)), (.int (1 : Int32))])) _
      refine XS.icmpYes X21.here hx rfl (pc0 := 48) (pc' := 85) rfl (hb hby d4_48) rfl (own_feq (a := (1 : Int32)) (b := (16 : Int32)) (by decide) (by decide) hc48_23).2 (by decide) (by decide) ?_
      show Steps p.tables e below (T21.setTop (mkF m 85 #[.val (.ref oa), .val (.long qe), .second, .val (.long qc), .second, .val (.int (0 : Int32))] [])) _
      refine XS.aloadN X21.here hx rfl (hb hby d4_85) rfl rfl ?_
      show Steps p.tables e below (T21.setTop (mkF m 86 #[.val (.ref oa), .val (.long qe), .second, .val (.long qc), .second, .val (.int (0 : Int32))] [(.ref oa)])) _
      refine st24 _ ?_
      show Steps p.tables e below (T24.setTop (mkF m 89 #[.val (.ref oa), .val (.long qe), .second, .val (.long qc), .second, .val (.int (0 : Int32))] [(.ref ea)])) _
      refine XS.iload X24.here hx rfl (hb hby d4_89) rfl ?_
      show Steps p.tables e below (T24.setTop (mkF m 91 #[.val (.ref oa), .val (.long qe), .second, .val (.long qc), .second, .val (.int (0 : Int32))] [(.int (0 : Int32)), (.ref ea)])) _
      refine XS.aloadN X24.here hx rfl (hb hby d4_91) rfl rfl ?_
      show Steps p.tables e below (T24.setTop (mkF m 92 #[.val (.ref oa), .val (.long qe), .second, .val (.long qc), .second, .val (.int (0 : Int32))] [(.ref oa), (.int (0 : Int32)), (.ref ea)])) _
      refine st25 _ ?_
      show Steps p.tables e below (T25.setTop (mkF m 95 #[.val (.ref oa), .val (.long qe), .second, .val (.long qc), .second, .val (.int (0 : Int32))] [(.ref ea), (.int (0 : Int32)), (.ref ea)])) _
      refine XS.iload X25.here hx rfl (hb hby d4_95) rfl ?_
      show Steps p.tables e below (T25.setTop (mkF m 97 #[.val (.ref oa), .val (.long qe), .second, .val (.long qc), .second, .val (.int (0 : Int32))] [(.int (0 : Int32)), (.ref ea), (.int (0 : Int32)), (.ref ea)])) _
      refine XS.iconst X25.here hx rfl (hb hby d4_97) ?_
      show Steps p.tables e below (T25.setTop (mkF m 98 #[.val (.ref oa), .val (.long qe), .second, .val (.long qc), .second, .val (.int (0 : Int32))] [(.int (1 : Int32)), (.int (0 : Int32)), (.ref ea), (.int (0 : Int32)), (.ref ea)])) _
      refine XS.iadd X25.here hx rfl (hb hby d4_98) rfl ?_
      show Steps p.tables e below (T25.setTop (mkF m 99 #[.val (.ref oa), .val (.long qe), .second, .val (.long qc), .second, .val (.int (0 : Int32))] [(.int (1 : Int32)), (.ref ea), (.int (0 : Int32)), (.ref ea)])) _
      refine XS.aloadN X25.here hx rfl (hb hby d4_99) rfl rfl ?_
      show Steps p.tables e below (T25.setTop (mkF m 100 #[.val (.ref oa), .val (.long qe), .second, .val (.long qc), .second, .val (.int (0 : Int32))] [(.ref oa), (.int (1 : Int32)), (.ref ea), (.int (0 : Int32)), (.ref ea)])) _
      refine st26 _ ?_
      show Steps p.tables e below (T26.setTop (mkF m 103 #[.val (.ref oa), .val (.long qe), .second, .val (.long qc), .second, .val (.int (0 : Int32))] [(.int (1 : Int32)), (.int (1 : Int32)), (.ref ea), (.int (0 : Int32)), (.ref ea)])) _
      refine XS.iload X26.here hx rfl (hb hby d4_103) rfl ?_
      show Steps p.tables e below (T26.setTop (mkF m 105 #[.val (.ref oa), .val (.long qe), .second, .val (.long qc), .second, .val (.int (0 : Int32))] [(.int (0 : Int32)), (.int (1 : Int32)), (.int (1 : Int32)), (.ref ea), (.int (0 : Int32)), (.ref ea)])) _
      refine XS.isub X26.here hx rfl (hb hby d4_105) rfl ?_
      show Steps p.tables e below (T26.setTop (mkF m 106 #[.val (.ref oa), .val (.long qe), .second, .val (.long qc), .second, .val (.int (0 : Int32))] [(.int (1 : Int32)), (.int (1 : Int32)), (.ref ea), (.int (0 : Int32)), (.ref ea)])) _
      refine st27 _ ?_
      show Steps p.tables e below (T27.setTop (mkF m 109 #[.val (.ref oa), .val (.long qe), .second, .val (.long qc), .second, .val (.int (0 : Int32))] [])) _
      refine XS.aloadN X27.here hx rfl (hb hby d4_109) rfl rfl ?_
      show Steps p.tables e below (T27.setTop (mkF m 110 #[.val (.ref oa), .val (.long qe), .second, .val (.long qc), .second, .val (.int (0 : Int32))] [(.ref oa)])) _
      refine st30 _ ?_
      show Steps p.tables e below (T30.setTop (mkF m 113 #[.val (.ref oa), .val (.long qe), .second, .val (.long qc), .second, .val (.int (0 : Int32))] [(.ref ca)])) _
      refine XS.iload X30.here hx rfl (hb hby d4_113) rfl ?_
      show Steps p.tables e below (T30.setTop (mkF m 115 #[.val (.ref oa), .val (.long qe), .second, .val (.long qc), .second, .val (.int (0 : Int32))] [(.int (0 : Int32)), (.ref ca)])) _
      refine XS.aloadN X30.here hx rfl (hb hby d4_115) rfl rfl ?_
      show Steps p.tables e below (T30.setTop (mkF m 116 #[.val (.ref oa), .val (.long qe), .second, .val (.long qc), .second, .val (.int (0 : Int32))] [(.ref oa), (.int (0 : Int32)), (.ref ca)])) _
      refine st31 _ ?_
      show Steps p.tables e below (T31.setTop (mkF m 119 #[.val (.ref oa), .val (.long qe), .second, .val (.long qc), .second, .val (.int (0 : Int32))] [(.ref ca), (.int (0 : Int32)), (.ref ca)])) _
      refine XS.iload X31.here hx rfl (hb hby d4_119) rfl ?_
      show Steps p.tables e below (T31.setTop (mkF m 121 #[.val (.ref oa), .val (.long qe), .second, .val (.long qc), .second, .val (.int (0 : Int32))] [(.int (0 : Int32)), (.ref ca), (.int (0 : Int32)), (.ref ca)])) _
      refine XS.iconst X31.here hx rfl (hb hby d4_121) ?_
      show Steps p.tables e below (T31.setTop (mkF m 122 #[.val (.ref oa), .val (.long qe), .second, .val (.long qc), .second, .val (.int (0 : Int32))] [(.int (1 : Int32)), (.int (0 : Int32)), (.ref ca), (.int (0 : Int32)), (.ref ca)])) _
      refine XS.iadd X31.here hx rfl (hb hby d4_122) rfl ?_
      show Steps p.tables e below (T31.setTop (mkF m 123 #[.val (.ref oa), .val (.long qe), .second, .val (.long qc), .second, .val (.int (0 : Int32))] [(.int (1 : Int32)), (.ref ca), (.int (0 : Int32)), (.ref ca)])) _
      refine XS.aloadN X31.here hx rfl (hb hby d4_123) rfl rfl ?_
      show Steps p.tables e below (T31.setTop (mkF m 124 #[.val (.ref oa), .val (.long qe), .second, .val (.long qc), .second, .val (.int (0 : Int32))] [(.ref oa), (.int (1 : Int32)), (.ref ca), (.int (0 : Int32)), (.ref ca)])) _
      refine st33 _ ?_
      show Steps p.tables e below (T33.setTop (mkF m 127 #[.val (.ref oa), .val (.long qe), .second, .val (.long qc), .second, .val (.int (0 : Int32))] [(.int (1 : Int32)), (.int (1 : Int32)), (.ref ca), (.int (0 : Int32)), (.ref ca)])) _
      refine XS.iload X33.here hx rfl (hb hby d4_127) rfl ?_
      show Steps p.tables e below (T33.setTop (mkF m 129 #[.val (.ref oa), .val (.long qe), .second, .val (.long qc), .second, .val (.int (0 : Int32))] [(.int (0 : Int32)), (.int (1 : Int32)), (.int (1 : Int32)), (.ref ca), (.int (0 : Int32)), (.ref ca)])) _
      refine XS.isub X33.here hx rfl (hb hby d4_129) rfl ?_
      show Steps p.tables e below (T33.setTop (mkF m 130 #[.val (.ref oa), .val (.long qe), .second, .val (.long qc), .second, .val (.int (0 : Int32))] [(.int (1 : Int32)), (.int (1 : Int32)), (.ref ca), (.int (0 : Int32)), (.ref ca)])) _
      refine st35 _ ?_
      show Steps p.tables e below (T35.setTop (mkF m 133 #[.val (.ref oa), .val (.long qe), .second, .val (.long qc), .second, .val (.int (0 : Int32))] [])) _
      refine XS.aloadN X35.here hx rfl (hb hby d4_133) rfl rfl ?_
      show Steps p.tables e below (T35.setTop (mkF m 134 #[.val (.ref oa), .val (.long qe), .second, .val (.long qc), .second, .val (.int (0 : Int32))] [(.ref oa)])) _
      refine st38 _ ?_
      show Steps p.tables e below (T38.setTop (mkF m 137 #[.val (.ref oa), .val (.long qe), .second, .val (.long qc), .second, .val (.int (0 : Int32))] [(.ref ea)])) _
      refine XS.iload X38.here hx rfl (hb hby d4_137) rfl ?_
      show Steps p.tables e below (T38.setTop (mkF m 139 #[.val (.ref oa), .val (.long qe), .second, .val (.long qc), .second, .val (.int (0 : Int32))] [(.int (0 : Int32)), (.ref ea)])) _
      refine XS.lloadN X38.here hx rfl (hb hby d4_139) rfl ?_
      show Steps p.tables e below (T38.setTop (mkF m 140 #[.val (.ref oa), .val (.long qe), .second, .val (.long qc), .second, .val (.int (0 : Int32))] [(.long qe), (.int (0 : Int32)), (.ref ea)])) _
      refine st41 _ ?_
      show Steps p.tables e below (T41.setTop (mkF m 141 #[.val (.ref oa), .val (.long qe), .second, .val (.long qc), .second, .val (.int (0 : Int32))] [])) _
      refine XS.aloadN X41.here hx rfl (hb hby d4_141) rfl rfl ?_
      show Steps p.tables e below (T41.setTop (mkF m 142 #[.val (.ref oa), .val (.long qe), .second, .val (.long qc), .second, .val (.int (0 : Int32))] [(.ref oa)])) _
      refine st44 _ ?_
      show Steps p.tables e below (T44.setTop (mkF m 145 #[.val (.ref oa), .val (.long qe), .second, .val (.long qc), .second, .val (.int (0 : Int32))] [(.ref ca)])) _
      refine XS.iload X44.here hx rfl (hb hby d4_145) rfl ?_
      show Steps p.tables e below (T44.setTop (mkF m 147 #[.val (.ref oa), .val (.long qe), .second, .val (.long qc), .second, .val (.int (0 : Int32))] [(.int (0 : Int32)), (.ref ca)])) _
      refine XS.lloadN X44.here hx rfl (hb hby d4_147) rfl ?_
      show Steps p.tables e below (T44.setTop (mkF m 148 #[.val (.ref oa), .val (.long qe), .second, .val (.long qc), .second, .val (.int (0 : Int32))] [(.long qc), (.int (0 : Int32)), (.ref ca)])) _
      refine st47 _ ?_
      show Steps p.tables e below (T47.setTop (mkF m 149 #[.val (.ref oa), .val (.long qe), .second, .val (.long qc), .second, .val (.int (0 : Int32))] [])) _
      refine XS.aloadN X47.here hx rfl (hb hby d4_149) rfl rfl ?_
      show Steps p.tables e below (T47.setTop (mkF m 150 #[.val (.ref oa), .val (.long qe), .second, .val (.long qc), .second, .val (.int (0 : Int32))] [(.ref oa)])) _
      refine XS.dup X47.here hx rfl (hb hby d4_150) rfl rfl ?_
      show Steps p.tables e below (T47.setTop (mkF m 151 #[.val (.ref oa), .val (.long qe), .second, .val (.long qc), .second, .val (.int (0 : Int32))] [(.ref oa), (.ref oa)])) _
      refine st50 _ ?_
      show Steps p.tables e below (T50.setTop (mkF m 154 #[.val (.ref oa), .val (.long qe), .second, .val (.long qc), .second, .val (.int (0 : Int32))] [(.int (1 : Int32)), (.ref oa)])) _
      refine XS.iconst X50.here hx rfl (hb hby d4_154) ?_
      show Steps p.tables e below (T50.setTop (mkF m 155 #[.val (.ref oa), .val (.long qe), .second, .val (.long qc), .second, .val (.int (0 : Int32))] [(.int (1 : Int32)), (.int (1 : Int32)), (.ref oa)])) _
      refine XS.iadd X50.here hx rfl (hb hby d4_155) rfl ?_
      show Steps p.tables e below (T50.setTop (mkF m 156 #[.val (.ref oa), .val (.long qe), .second, .val (.long qc), .second, .val (.int (0 : Int32))] [(.int (2 : Int32)), (.ref oa)])) _
      refine st52 _ ?_
      show Steps p.tables e below (T52.setTop (mkF m 159 #[.val (.ref oa), .val (.long qe), .second, .val (.long qc), .second, .val (.int (0 : Int32))] [])) _
      exact X52.returnOut hx Bd.returns (hb hby d4_159) hr
    · show Q_add1 Z oa qe qc ea ca kE kC x0 c0 h0 n0 _ T52.heap _
      rw [e52]
      have f54 := ((((((Keep.refl h0 [oa, ea, ca]).trans K27 (allS (P := fun x => x ∈ [oa, ea, ca] ∨ h0.size ≤ x) (Or.inl (List.mem_of_getElem? (i := 1) rfl)) all0)).trans K35 (allS (P := fun x => x ∈ [oa, ea, ca] ∨ h0.size ≤ x) (Or.inl (List.mem_of_getElem? (i := 2) rfl)) all0)).wr W41 (Or.inl (List.mem_of_getElem? (i := 1) rfl))).wr W47 (Or.inl (List.mem_of_getElem? (i := 2) rfl))).wr W52 (Or.inl (List.mem_of_getElem? (i := 0) rfl)))
      have f55 := (f51.wr W52)
      have f56 := (((f37.other W41 (Or.inl nae)).other W47 (Or.inl nac)).other W52 (Or.inr (slot_ne (Or.inl (hw _ (List.mem_of_getElem? (i := 11) rfl))) (Or.inl (hw _ (List.mem_of_getElem? (i := 20) rfl))) (by decide) (t := (.array .long)) (t' := .int) (by decide) (by decide))))
      have f57 := ((f43.other W47 (Or.inl nac)).other W52 (Or.inr (slot_ne (Or.inl (hw _ (List.mem_of_getElem? (i := 13) rfl))) (Or.inl (hw _ (List.mem_of_getElem? (i := 20) rfl))) (by decide) (t := (.array .long)) (t' := .int) (by decide) (by decide))))
      have f58 := ((V41.other W47 nec).other W52 (Ne.symm nae))
      have f59 := (V47.other W52 (Ne.symm nac))
      exact ⟨rfl, N52, f54, f55, f56, f57, Or.inr ⟨qe, x0, qc, c0, Fw52, f58, f59, by omega, by omega, by omega, by omega, fun s => by omega⟩⟩
  · have pre60 : ∀ t, Steps p.tables e below (T3.setTop (mkF m 13 #[.val (.ref oa), .val (.long qe), .second, .val (.long qc), .second, .unset] [(.int (-2 : Int32))])) t → Steps p.tables e below (s₁.setTop (entryFrame m #[(.ref oa), (.long qe), (.long qc)] 6)) t := pre4
    have hc17_61 : (-2 : Int) < (0 : Int) := by decide
    obtain ⟨T62, X62, e62, st62⟩ := getF X3 hx hZ hown (host := "") (Or.inl (hw _ (List.mem_of_getElem? (i := 19) rfl))) Via.refl e3 F2 (g := (mkF m 40 #[.val (.ref oa), .val (.long qe), .second, .val (.long qc), .second, .val (.int (1 : Int32))] [(.ref oa)])) rfl rfl (hb hby d4_40)
    obtain ⟨T63, X63, e63, st63⟩ := getF X62 hx hZ hown (host := "") (Or.inl (hw _ (List.mem_of_getElem? (i := 10) rfl))) Via.refl e62 F0 (g := (mkF m 44 #[.val (.ref oa), .val (.long qe), .second, .val (.long qc), .second, .val (.int (1 : Int32))] [(.ref oa), (.int (1 : Int32))])) rfl rfl (hb hby d4_44)
    obtain ⟨cl64, Ar64, q64, S64, M64, H64, G64⟩ := id V0
    have hc48_65 : ¬ ((1 : Int) = (16 : Int)) := by decide
    obtain ⟨T66, X66, e66, st66⟩ := getF X63 hx hZ hown (host := "") (Or.inl (hw _ (List.mem_of_getElem? (i := 10) rfl))) Via.refl e63 F0 (g := (mkF m 86 #[.val (.ref oa), .val (.long qe), .second, .val (.long qc), .second, .val (.int (1 : Int32))] [(.ref oa)])) rfl rfl (hb hby d4_86)
    obtain ⟨T67, X67, e67, st67⟩ := getF X66 hx hZ hown (host := "") (Or.inl (hw _ (List.mem_of_getElem? (i := 10) rfl))) Via.refl e66 F0 (g := (mkF m 92 #[.val (.ref oa), .val (.long qe), .second, .val (.long qc), .second, .val (.int (1 : Int32))] [(.ref oa), (.int (1 : Int32)), (.ref ea)])) rfl rfl (hb hby d4_92)
    obtain ⟨T68, X68, e68, st68⟩ := getF X67 hx hZ hown (host := "") (Or.inl (hw _ (List.mem_of_getElem? (i := 19) rfl))) Via.refl e67 F2 (g := (mkF m 100 #[.val (.ref oa), .val (.long qe), .second, .val (.long qc), .second, .val (.int (1 : Int32))] [(.ref oa), (.int (2 : Int32)), (.ref ea), (.int (1 : Int32)), (.ref ea)])) rfl rfl (hb hby d4_100)
    obtain ⟨T69, h69, L69, X69, e69, N69, K69, V69, st69⟩ := cpA X68 hx hZ hown (hw _ (List.mem_of_getElem? (i := 36) rfl)) (hw _ (List.mem_of_getElem? (i := 39) rfl)) (hw _ (List.mem_of_getElem? (i := 37) rfl)) (hw _ (List.mem_of_getElem? (i := 38) rfl)) e68 V0 V0 (Or.inl ⟨rfl, rfl⟩) (by decide : ¬ (1 : Int32) < 0) (by decide : ¬ (2 : Int32) < 0) (by decide : ¬ (0 : Int32) < 0) (by decide) (by decide) (us := []) rfl (Nat.le_of_ble_eq_true rfl) N3 ge (g := (mkF m 106 #[.val (.ref oa), .val (.long qe), .second, .val (.long qc), .second, .val (.int (1 : Int32))] [(.int (0 : Int32)), (.int (2 : Int32)), (.ref ea), (.int (1 : Int32)), (.ref ea)])) rfl (by rw [hml]; rfl) (rest := []) rfl (hb hby d4_106) (by decide) (W := 0) (by show 2 * 0 + _ ≤ _; exact Nat.le_of_eq rfl) (by decide)
    have Zs70 : n0 ≤ h69.size := Nat.le_trans Z0 K69.1
    have Vc69 : Arv Z h69 ea kE .long (16 : Int32) [(.long x0), (.long (0 : Int64)), (.long (0 : Int64)), (.long (0 : Int64))] (.long (0 : Int64)) := V69
    have f71 := (F1.keep K69 (ninS nae nin0))
    obtain ⟨T72, X72, e72, st72⟩ := getF X69 hx hZ hown (host := "") (Or.inl (hw _ (List.mem_of_getElem? (i := 12) rfl))) Via.refl e69 f71 (g := (mkF m 110 #[.val (.ref oa), .val (.long qe), .second, .val (.long qc), .second, .val (.int (1 : Int32))] [(.ref oa)])) rfl rfl (hb hby d4_110)
    obtain ⟨T73, X73, e73, st73⟩ := getF X72 hx hZ hown (host := "") (Or.inl (hw _ (List.mem_of_getElem? (i := 12) rfl))) Via.refl e72 f71 (g := (mkF m 116 #[.val (.ref oa), .val (.long qe), .second, .val (.long qc), .second, .val (.int (1 : Int32))] [(.ref oa), (.int (1 : Int32)), (.ref ca)])) rfl rfl (hb hby d4_116)
    have f74 := (F2.keep K69 (ninS nae nin0))
    obtain ⟨T75, X75, e75, st75⟩ := getF X73 hx hZ hown (host := "") (Or.inl (hw _ (List.mem_of_getElem? (i := 19) rfl))) Via.refl e73 f74 (g := (mkF m 124 #[.val (.ref oa), .val (.long qe), .second, .val (.long qc), .second, .val (.int (1 : Int32))] [(.ref oa), (.int (2 : Int32)), (.ref ca), (.int (1 : Int32)), (.ref ca)])) rfl rfl (hb hby d4_124)
    have f76 := (V1.keep K69 (ninS (Ne.symm nec) nin0))
    obtain ⟨T77, h77, L77, X77, e77, N77, K77, V77, st77⟩ := cpA X75 hx hZ hown (hw _ (List.mem_of_getElem? (i := 36) rfl)) (hw _ (List.mem_of_getElem? (i := 39) rfl)) (hw _ (List.mem_of_getElem? (i := 37) rfl)) (hw _ (List.mem_of_getElem? (i := 38) rfl)) e75 f76 f76 (Or.inl ⟨rfl, rfl⟩) (by decide : ¬ (1 : Int32) < 0) (by decide : ¬ (2 : Int32) < 0) (by decide : ¬ (0 : Int32) < 0) (by decide) (by decide) (us := []) rfl (Nat.le_of_ble_eq_true rfl) N69 gc (g := (mkF m 130 #[.val (.ref oa), .val (.long qe), .second, .val (.long qc), .second, .val (.int (1 : Int32))] [(.int (0 : Int32)), (.int (2 : Int32)), (.ref ca), (.int (1 : Int32)), (.ref ca)])) rfl (by rw [hml]; rfl) (rest := []) rfl (hb hby d4_130) (by decide) (W := 0) (by show 2 * 0 + _ ≤ _; exact Nat.le_of_eq rfl) (by decide)
    have Zs78 : n0 ≤ h77.size := Nat.le_trans Zs70 K77.1
    have Vc77 : Arv Z h77 ca kC .long (16 : Int32) [(.long c0), (.long (0 : Int64)), (.long (0 : Int64)), (.long (0 : Int64))] (.long (0 : Int64)) := V77
    have f79 := ((F0.keep K69 (ninS nae nin0)).keep K77 (ninS nac nin0))
    obtain ⟨T80, X80, e80, st80⟩ := getF X77 hx hZ hown (host := "") (Or.inl (hw _ (List.mem_of_getElem? (i := 10) rfl))) Via.refl e77 f79 (g := (mkF m 134 #[.val (.ref oa), .val (.long qe), .second, .val (.long qc), .second, .val (.int (1 : Int32))] [(.ref oa)])) rfl rfl (hb hby d4_134)
    have f81 := (Vc69.keep K77 (ninS nec nin0))
    obtain ⟨cl82, Ar82, q82, S82, M82, H82, G82⟩ := id f81
    have hin82 : ¬ ((1 : Int32) < 0 ∨ cl82.slots.size ≤ ((1 : Int32)).toNatClampNeg) := inb_of S82 ⟨by decide, by decide⟩
    obtain ⟨T83, h83, X83, e83, W83, st83⟩ := stJ X80 hx hZ e80 Ar82 (j := (1 : Int32)) hin82 (g := (mkF m 140 #[.val (.ref oa), .val (.long qe), .second, .val (.long qc), .second, .val (.int (1 : Int32))] [(.long qe), (.int (1 : Int32)), (.ref ea)])) rfl rfl (hb hby d4_140)
    have N83 := Fr.snoc X83 N77 ge
    have Zs84 : n0 ≤ h83.size := by rw [W83.size]; exact Zs78
    have V83 : Arv Z h83 ea kE .long (16 : Int32) [(.long x0), (.long qe), (.long (0 : Int64)), (.long (0 : Int64))] (.long (0 : Int64)) := Arv.set Ar82 q82 S82 M82 H82 G82 rfl W83 1 rfl (Nat.le_of_ble_eq_true rfl)
    have f85 := ((f71.keep K77 (ninS nac nin0)).other W83 (Or.inl nae))
    obtain ⟨T86, X86, e86, st86⟩ := getF X83 hx hZ hown (host := "") (Or.inl (hw _ (List.mem_of_getElem? (i := 12) rfl))) Via.refl e83 f85 (g := (mkF m 142 #[.val (.ref oa), .val (.long qe), .second, .val (.long qc), .second, .val (.int (1 : Int32))] [(.ref oa)])) rfl rfl (hb hby d4_142)
    have f87 := (Vc77.other W83 (Ne.symm nec))
    obtain ⟨cl88, Ar88, q88, S88, M88, H88, G88⟩ := id f87
    have hin88 : ¬ ((1 : Int32) < 0 ∨ cl88.slots.size ≤ ((1 : Int32)).toNatClampNeg) := inb_of S88 ⟨by decide, by decide⟩
    obtain ⟨T89, h89, X89, e89, W89, st89⟩ := stJ X86 hx hZ e86 Ar88 (j := (1 : Int32)) hin88 (g := (mkF m 148 #[.val (.ref oa), .val (.long qe), .second, .val (.long qc), .second, .val (.int (1 : Int32))] [(.long qc), (.int (1 : Int32)), (.ref ca)])) rfl rfl (hb hby d4_148)
    have N89 := Fr.snoc X89 N83 gc
    have Zs90 : n0 ≤ h89.size := by rw [W89.size]; exact Zs84
    have V89 : Arv Z h89 ca kC .long (16 : Int32) [(.long c0), (.long qc), (.long (0 : Int64)), (.long (0 : Int64))] (.long (0 : Int64)) := Arv.set Ar88 q88 S88 M88 H88 G88 rfl W89 1 rfl (Nat.le_of_ble_eq_true rfl)
    have f91 := (((f74.keep K77 (ninS nac nin0)).other W83 (Or.inl nae)).other W89 (Or.inl nac))
    obtain ⟨T92, X92, e92, st92⟩ := getF X89 hx hZ hown (host := "") (Or.inl (hw _ (List.mem_of_getElem? (i := 19) rfl))) Via.refl e89 f91 (g := (mkF m 151 #[.val (.ref oa), .val (.long qe), .second, .val (.long qc), .second, .val (.int (1 : Int32))] [(.ref oa), (.ref oa)])) rfl rfl (hb hby d4_151)
    have f93 := ((((Ea.keep K69).keep K77).wr W83).wr W89)
    obtain ⟨T94, h94, X94, e94, W94, st94⟩ := putF X92 hx hZ hown (host := "") (Or.inl (hw _ (List.mem_of_getElem? (i := 19) rfl))) Via.refl e92 f91 f93 (Or.inl (hw _ (List.mem_of_getElem? (i := 20) rfl))) (hw _ (List.mem_of_getElem? (i := 1) rfl)) (ty := .int) (by decide) rfl rfl (g := (mkF m 156 #[.val (.ref oa), .val (.long qe), .second, .val (.long qc), .second, .val (.int (1 : Int32))] [(.int (2 : Int32)), (.ref oa)])) rfl rfl (hb hby d4_156)
    have N94 := Fr.snoc X94 N89 ga
    have Zs95 : n0 ≤ h94.size := by rw [W94.size]; exact Zs90
    have Fw94 := f91.same W94
    obtain ⟨fs, hr, hrun, hended, hW, hsame⟩ := X94.leave (v := none) (fun _ => rfl)
    refine ⟨_, _, pre60 _ ?_, hrun, hended, _, _, rfl, ?_, ⟨_, rfl⟩, hW, hsame.mono (by decide) (by decide)⟩
    · show Steps p.tables e below (T3.setTop (mkF m 13 #[.val (.ref oa), .val (.long qe), .second, .val (.long qc), .second, .unset] [(.int (-2 : Int32))])) _
      refine XS.istore X3.here hx rfl (hb hby d4_13) rfl (l' := #[.val (.ref oa), .val (.long qe), .second, .val (.long qc), .second, .val (.int (-2 : Int32))]) rfl ?_
      show Steps p.tables e below (T3.setTop (mkF m 15 #[.val (.ref oa), .val (.long qe), .second, .val (.long qc), .second, .val (.int (-2 : Int32))] [])) _
      refine XS.iload X3.here hx rfl (hb hby d4_15) rfl ?_
      show Steps p.tables e below (T3.setTop (mkF m 17 #[.val (.ref oa), .val (.long qe), .second, .val (.long qc), .second, .val (.int (-2 : Int32))] [(.int (-2 : Int32))])) _
      refine XS.ifYes X3.here hx rfl (pc0 := 17) (pc' := 32) rfl (hb hby d4_17) rfl (own_if (own_tlt (a := (-2 : Int32)) (b := (0 : Int32)) (by decide) (by decide) hc17_61).1) (by decide) (by decide) ?_
      show Steps p.tables e below (T3.setTop (mkF m 32 #[.val (.ref oa), .val (.long qe), .second, .val (.long qc), .second, .val (.int (-2 : Int32))] [])) _
      refine XS.iload X3.here hx rfl (hb hby d4_32) rfl ?_
      show Steps p.tables e below (T3.setTop (mkF m 34 #[.val (.ref oa), .val (.long qe), .second, .val (.long qc), .second, .val (.int (-2 : Int32))] [(.int (-2 : Int32))])) _
      refine XS.ineg X3.here hx rfl (hb hby d4_34) rfl ?_
      show Steps p.tables e below (T3.setTop (mkF m 35 #[.val (.ref oa), .val (.long qe), .second, .val (.long qc), .second, .val (.int (-2 : Int32))] [(.int (2 : Int32))])) _
      refine XS.iconst X3.here hx rfl (hb hby d4_35) ?_
      show Steps p.tables e below (T3.setTop (mkF m 36 #[.val (.ref oa), .val (.long qe), .second, .val (.long qc), .second, .val (.int (-2 : Int32))] [(.int (1 : Int32)), (.int (2 : Int32))])) _
      refine XS.isub X3.here hx rfl (hb hby d4_36) rfl ?_
      show Steps p.tables e below (T3.setTop (mkF m 37 #[.val (.ref oa), .val (.long qe), .second, .val (.long qc), .second, .val (.int (-2 : Int32))] [(.int (1 : Int32))])) _
      refine XS.istore X3.here hx rfl (hb hby d4_37) rfl (l' := #[.val (.ref oa), .val (.long qe), .second, .val (.long qc), .second, .val (.int (1 : Int32))]) rfl ?_
      show Steps p.tables e below (T3.setTop (mkF m 39 #[.val (.ref oa), .val (.long qe), .second, .val (.long qc), .second, .val (.int (1 : Int32))] [])) _
      refine XS.aloadN X3.here hx rfl (hb hby d4_39) rfl rfl ?_
      show Steps p.tables e below (T3.setTop (mkF m 40 #[.val (.ref oa), .val (.long qe), .second, .val (.long qc), .second, .val (.int (1 : Int32))] [(.ref oa)])) _
      refine st62 _ ?_
      show Steps p.tables e below (T62.setTop (mkF m 43 #[.val (.ref oa), .val (.long qe), .second, .val (.long qc), .second, .val (.int (1 : Int32))] [(.int (1 : Int32))])) _
      refine XS.aloadN X62.here hx rfl (hb hby d4_43) rfl rfl ?_
      show Steps p.tables e below (T62.setTop (mkF m 44 #[.val (.ref oa), .val (.long qe), .second, .val (.long qc), .second, .val (.int (1 : Int32))] [(.ref oa), (.int (1 : Int32))])) _
      refine st63 _ ?_
      show Steps p.tables e below (T63.setTop (mkF m 47 #[.val (.ref oa), .val (.long qe), .second, .val (.long qc), .second, .val (.int (1 : Int32))] [(.ref ea), (.int (1 : Int32))])) _
      refine X63.arraylength hx (by rw [e63]; exact Ar64.1) (State.isArrayOf_alike hZ.alike Ar64.2.1) (g := (mkF m 47 #[.val (.ref oa), .val (.long qe), .second, .val (.long qc), .second, .val (.int (1 : Int32))] [(.ref ea), (.int (1 : Int32))])) rfl rfl (hb hby d4_47) _ ?_
      rw [len_of S64 M64]
      show Steps p.tables e below (T63.setTop (mkF m 48 #[.val (.ref oa), .val (.long qe), .second, .val (.long qc), .second, .val (.int (1 : Int32))] [(.int (16 : Int32)), (.int (1 : Int32))])) _
      refine XS.icmpYes X63.here hx rfl (pc0 := 48) (pc' := 85) rfl (hb hby d4_48) rfl (own_feq (a := (1 : Int32)) (b := (16 : Int32)) (by decide) (by decide) hc48_65).2 (by decide) (by decide) ?_
      show Steps p.tables e below (T63.setTop (mkF m 85 #[.val (.ref oa), .val (.long qe), .second, .val (.long qc), .second, .val (.int (1 : Int32))] [])) _
      refine XS.aloadN X63.here hx rfl (hb hby d4_85) rfl rfl ?_
      show Steps p.tables e below (T63.setTop (mkF m 86 #[.val (.ref oa), .val (.long qe), .second, .val (.long qc), .second, .val (.int (1 : Int32))] [(.ref oa)])) _
      refine st66 _ ?_
      show Steps p.tables e below (T66.setTop (mkF m 89 #[.val (.ref oa), .val (.long qe), .second, .val (.long qc), .second, .val (.int (1 : Int32))] [(.ref ea)])) _
      refine XS.iload X66.here hx rfl (hb hby d4_89) rfl ?_
      show Steps p.tables e below (T66.setTop (mkF m 91 #[.val (.ref oa), .val (.long qe), .second, .val (.long qc), .second, .val (.int (1 : Int32))] [(.int (1 : Int32)), (.ref ea)])) _
      refine XS.aloadN X66.here hx rfl (hb hby d4_91) rfl rfl ?_
      show Steps p.tables e below (T66.setTop (mkF m 92 #[.val (.ref oa), .val (.long qe), .second, .val (.long qc), .second, .val (.int (1 : Int32))] [(.ref oa), (.int (1 : Int32)), (.ref ea)])) _
      refine st67 _ ?_
      show Steps p.tables e below (T67.setTop (mkF m 95 #[.val (.ref oa), .val (.long qe), .second, .val (.long qc), .second, .val (.int (1 : Int32))] [(.ref ea), (.int (1 : Int32)), (.ref ea)])) _
      refine XS.iload X67.here hx rfl (hb hby d4_95) rfl ?_
      show Steps p.tables e below (T67.setTop (mkF m 97 #[.val (.ref oa), .val (.long qe), .second, .val (.long qc), .second, .val (.int (1 : Int32))] [(.int (1 : Int32)), (.ref ea), (.int (1 : Int32)), (.ref ea)])) _
      refine XS.iconst X67.here hx rfl (hb hby d4_97) ?_
      show Steps p.tables e below (T67.setTop (mkF m 98 #[.val (.ref oa), .val (.long qe), .second, .val (.long qc), .second, .val (.int (1 : Int32))] [(.int (1 : Int32)), (.int (1 : Int32)), (.ref ea), (.int (1 : Int32)), (.ref ea)])) _
      refine XS.iadd X67.here hx rfl (hb hby d4_98) rfl ?_
      show Steps p.tables e below (T67.setTop (mkF m 99 #[.val (.ref oa), .val (.long qe), .second, .val (.long qc), .second, .val (.int (1 : Int32))] [(.int (2 : Int32)), (.ref ea), (.int (1 : Int32)), (.ref ea)])) _
      refine XS.aloadN X67.here hx rfl (hb hby d4_99) rfl rfl ?_
      show Steps p.tables e below (T67.setTop (mkF m 100 #[.val (.ref oa), .val (.long qe), .second, .val (.long qc), .second, .val (.int (1 : Int32))] [(.ref oa), (.int (2 : Int32)), (.ref ea), (.int (1 : Int32)), (.ref ea)])) _
      refine st68 _ ?_
      show Steps p.tables e below (T68.setTop (mkF m 103 #[.val (.ref oa), .val (.long qe), .second, .val (.long qc), .second, .val (.int (1 : Int32))] [(.int (1 : Int32)), (.int (2 : Int32)), (.ref ea), (.int (1 : Int32)), (.ref ea)])) _
      refine XS.iload X68.here hx rfl (hb hby d4_103) rfl ?_
      show Steps p.tables e below (T68.setTop (mkF m 105 #[.val (.ref oa), .val (.long qe), .second, .val (.long qc), .second, .val (.int (1 : Int32))] [(.int (1 : Int32)), (.int (1 : Int32)), (.int (2 : Int32)), (.ref ea), (.int (1 : Int32)), (.ref ea)])) _
      refine XS.isub X68.here hx rfl (hb hby d4_105) rfl ?_
      show Steps p.tables e below (T68.setTop (mkF m 106 #[.val (.ref oa), .val (.long qe), .second, .val (.long qc), .second, .val (.int (1 : Int32))] [(.int (0 : Int32)), (.int (2 : Int32)), (.ref ea), (.int (1 : Int32)), (.ref ea)])) _
      refine st69 _ ?_
      show Steps p.tables e below (T69.setTop (mkF m 109 #[.val (.ref oa), .val (.long qe), .second, .val (.long qc), .second, .val (.int (1 : Int32))] [])) _
      refine XS.aloadN X69.here hx rfl (hb hby d4_109) rfl rfl ?_
      show Steps p.tables e below (T69.setTop (mkF m 110 #[.val (.ref oa), .val (.long qe), .second, .val (.long qc), .second, .val (.int (1 : Int32))] [(.ref oa)])) _
      refine st72 _ ?_
      show Steps p.tables e below (T72.setTop (mkF m 113 #[.val (.ref oa), .val (.long qe), .second, .val (.long qc), .second, .val (.int (1 : Int32))] [(.ref ca)])) _
      refine XS.iload X72.here hx rfl (hb hby d4_113) rfl ?_
      show Steps p.tables e below (T72.setTop (mkF m 115 #[.val (.ref oa), .val (.long qe), .second, .val (.long qc), .second, .val (.int (1 : Int32))] [(.int (1 : Int32)), (.ref ca)])) _
      refine XS.aloadN X72.here hx rfl (hb hby d4_115) rfl rfl ?_
      show Steps p.tables e below (T72.setTop (mkF m 116 #[.val (.ref oa), .val (.long qe), .second, .val (.long qc), .second, .val (.int (1 : Int32))] [(.ref oa), (.int (1 : Int32)), (.ref ca)])) _
      refine st73 _ ?_
      show Steps p.tables e below (T73.setTop (mkF m 119 #[.val (.ref oa), .val (.long qe), .second, .val (.long qc), .second, .val (.int (1 : Int32))] [(.ref ca), (.int (1 : Int32)), (.ref ca)])) _
      refine XS.iload X73.here hx rfl (hb hby d4_119) rfl ?_
      show Steps p.tables e below (T73.setTop (mkF m 121 #[.val (.ref oa), .val (.long qe), .second, .val (.long qc), .second, .val (.int (1 : Int32))] [(.int (1 : Int32)), (.ref ca), (.int (1 : Int32)), (.ref ca)])) _
      refine XS.iconst X73.here hx rfl (hb hby d4_121) ?_
      show Steps p.tables e below (T73.setTop (mkF m 122 #[.val (.ref oa), .val (.long qe), .second, .val (.long qc), .second, .val (.int (1 : Int32))] [(.int (1 : Int32)), (.int (1 : Int32)), (.ref ca), (.int (1 : Int32)), (.ref ca)])) _
      refine XS.iadd X73.here hx rfl (hb hby d4_122) rfl ?_
      show Steps p.tables e below (T73.setTop (mkF m 123 #[.val (.ref oa), .val (.long qe), .second, .val (.long qc), .second, .val (.int (1 : Int32))] [(.int (2 : Int32)), (.ref ca), (.int (1 : Int32)), (.ref ca)])) _
      refine XS.aloadN X73.here hx rfl (hb hby d4_123) rfl rfl ?_
      show Steps p.tables e below (T73.setTop (mkF m 124 #[.val (.ref oa), .val (.long qe), .second, .val (.long qc), .second, .val (.int (1 : Int32))] [(.ref oa), (.int (2 : Int32)), (.ref ca), (.int (1 : Int32)), (.ref ca)])) _
      refine st75 _ ?_
      show Steps p.tables e below (T75.setTop (mkF m 127 #[.val (.ref oa), .val (.long qe), .second, .val (.long qc), .second, .val (.int (1 : Int32))] [(.int (1 : Int32)), (.int (2 : Int32)), (.ref ca), (.int (1 : Int32)), (.ref ca)])) _
      refine XS.iload X75.here hx rfl (hb hby d4_127) rfl ?_
      show Steps p.tables e below (T75.setTop (mkF m 129 #[.val (.ref oa), .val (.long qe), .second, .val (.long qc), .second, .val (.int (1 : Int32))] [(.int (1 : Int32)), (.int (1 : Int32)), (.int (2 : Int32)), (.ref ca), (.int (1 : Int32)), (.ref ca)])) _
      refine XS.isub X75.here hx rfl (hb hby d4_129) rfl ?_
      show Steps p.tables e below (T75.setTop (mkF m 130 #[.val (.ref oa), .val (.long qe), .second, .val (.long qc), .second, .val (.int (1 : Int32))] [(.int (0 : Int32)), (.int (2 : Int32)), (.ref ca), (.int (1 : Int32)), (.ref ca)])) _
      refine st77 _ ?_
      show Steps p.tables e below (T77.setTop (mkF m 133 #[.val (.ref oa), .val (.long qe), .second, .val (.long qc), .second, .val (.int (1 : Int32))] [])) _
      refine XS.aloadN X77.here hx rfl (hb hby d4_133) rfl rfl ?_
      show Steps p.tables e below (T77.setTop (mkF m 134 #[.val (.ref oa), .val (.long qe), .second, .val (.long qc), .second, .val (.int (1 : Int32))] [(.ref oa)])) _
      refine st80 _ ?_
      show Steps p.tables e below (T80.setTop (mkF m 137 #[.val (.ref oa), .val (.long qe), .second, .val (.long qc), .second, .val (.int (1 : Int32))] [(.ref ea)])) _
      refine XS.iload X80.here hx rfl (hb hby d4_137) rfl ?_
      show Steps p.tables e below (T80.setTop (mkF m 139 #[.val (.ref oa), .val (.long qe), .second, .val (.long qc), .second, .val (.int (1 : Int32))] [(.int (1 : Int32)), (.ref ea)])) _
      refine XS.lloadN X80.here hx rfl (hb hby d4_139) rfl ?_
      show Steps p.tables e below (T80.setTop (mkF m 140 #[.val (.ref oa), .val (.long qe), .second, .val (.long qc), .second, .val (.int (1 : Int32))] [(.long qe), (.int (1 : Int32)), (.ref ea)])) _
      refine st83 _ ?_
      show Steps p.tables e below (T83.setTop (mkF m 141 #[.val (.ref oa), .val (.long qe), .second, .val (.long qc), .second, .val (.int (1 : Int32))] [])) _
      refine XS.aloadN X83.here hx rfl (hb hby d4_141) rfl rfl ?_
      show Steps p.tables e below (T83.setTop (mkF m 142 #[.val (.ref oa), .val (.long qe), .second, .val (.long qc), .second, .val (.int (1 : Int32))] [(.ref oa)])) _
      refine st86 _ ?_
      show Steps p.tables e below (T86.setTop (mkF m 145 #[.val (.ref oa), .val (.long qe), .second, .val (.long qc), .second, .val (.int (1 : Int32))] [(.ref ca)])) _
      refine XS.iload X86.here hx rfl (hb hby d4_145) rfl ?_
      show Steps p.tables e below (T86.setTop (mkF m 147 #[.val (.ref oa), .val (.long qe), .second, .val (.long qc), .second, .val (.int (1 : Int32))] [(.int (1 : Int32)), (.ref ca)])) _
      refine XS.lloadN X86.here hx rfl (hb hby d4_147) rfl ?_
      show Steps p.tables e below (T86.setTop (mkF m 148 #[.val (.ref oa), .val (.long qe), .second, .val (.long qc), .second, .val (.int (1 : Int32))] [(.long qc), (.int (1 : Int32)), (.ref ca)])) _
      refine st89 _ ?_
      show Steps p.tables e below (T89.setTop (mkF m 149 #[.val (.ref oa), .val (.long qe), .second, .val (.long qc), .second, .val (.int (1 : Int32))] [])) _
      refine XS.aloadN X89.here hx rfl (hb hby d4_149) rfl rfl ?_
      show Steps p.tables e below (T89.setTop (mkF m 150 #[.val (.ref oa), .val (.long qe), .second, .val (.long qc), .second, .val (.int (1 : Int32))] [(.ref oa)])) _
      refine XS.dup X89.here hx rfl (hb hby d4_150) rfl rfl ?_
      show Steps p.tables e below (T89.setTop (mkF m 151 #[.val (.ref oa), .val (.long qe), .second, .val (.long qc), .second, .val (.int (1 : Int32))] [(.ref oa), (.ref oa)])) _
      refine st92 _ ?_
      show Steps p.tables e below (T92.setTop (mkF m 154 #[.val (.ref oa), .val (.long qe), .second, .val (.long qc), .second, .val (.int (1 : Int32))] [(.int (1 : Int32)), (.ref oa)])) _
      refine XS.iconst X92.here hx rfl (hb hby d4_154) ?_
      show Steps p.tables e below (T92.setTop (mkF m 155 #[.val (.ref oa), .val (.long qe), .second, .val (.long qc), .second, .val (.int (1 : Int32))] [(.int (1 : Int32)), (.int (1 : Int32)), (.ref oa)])) _
      refine XS.iadd X92.here hx rfl (hb hby d4_155) rfl ?_
      show Steps p.tables e below (T92.setTop (mkF m 156 #[.val (.ref oa), .val (.long qe), .second, .val (.long qc), .second, .val (.int (1 : Int32))] [(.int (2 : Int32)), (.ref oa)])) _
      refine st94 _ ?_
      show Steps p.tables e below (T94.setTop (mkF m 159 #[.val (.ref oa), .val (.long qe), .second, .val (.long qc), .second, .val (.int (1 : Int32))] [])) _
      exact X94.returnOut hx Bd.returns (hb hby d4_159) hr
    · show Q_add1 Z oa qe qc ea ca kE kC x0 c0 h0 n0 _ T94.heap _
      rw [e94]
      have f96 := ((((((Keep.refl h0 [oa, ea, ca]).trans K69 (allS (P := fun x => x ∈ [oa, ea, ca] ∨ h0.size ≤ x) (Or.inl (List.mem_of_getElem? (i := 1) rfl)) all0)).trans K77 (allS (P := fun x => x ∈ [oa, ea, ca] ∨ h0.size ≤ x) (Or.inl (List.mem_of_getElem? (i := 2) rfl)) all0)).wr W83 (Or.inl (List.mem_of_getElem? (i := 1) rfl))).wr W89 (Or.inl (List.mem_of_getElem? (i := 2) rfl))).wr W94 (Or.inl (List.mem_of_getElem? (i := 0) rfl)))
      have f97 := (f93.wr W94)
      have f98 := (((f79.other W83 (Or.inl nae)).other W89 (Or.inl nac)).other W94 (Or.inr (slot_ne (Or.inl (hw _ (List.mem_of_getElem? (i := 11) rfl))) (Or.inl (hw _ (List.mem_of_getElem? (i := 20) rfl))) (by decide) (t := (.array .long)) (t' := .int) (by decide) (by decide))))
      have f99 := ((f85.other W89 (Or.inl nac)).other W94 (Or.inr (slot_ne (Or.inl (hw _ (List.mem_of_getElem? (i := 13) rfl))) (Or.inl (hw _ (List.mem_of_getElem? (i := 20) rfl))) (by decide) (t := (.array .long)) (t' := .int) (by decide) (by decide))))
      have f100 := ((V83.other W89 nec).other W94 (Ne.symm nae))
      have f101 := (V89.other W94 (Ne.symm nac))
      exact ⟨rfl, N94, f96, f97, f98, f99, Or.inr ⟨x0, qe, c0, qc, Fw94, f100, f101, by omega, by omega, by omega, by omega, fun s => by omega⟩⟩
theorem ef_rm_add2 (m : MethodId) (x0 : Addr) (x1 : Int64) (x2 : Int64) : entryFrame m #[(.ref x0), (.long x1), (.long x2)] 6 = mkF m 0 #[.val (.ref x0), .val (.long x1), .second, .val (.long x2), .second, .unset] [] := by first | (simp [entryFrame, mkF, argsToLocals, Value.category]; done) | rfl
def Q_add2 (Z : State) (oa : Addr) (qe : Int64) (qc : Int64) (ea : Addr) (ca : Addr) (kE : ClassId) (kC : ClassId) (x0 : Int64) (x1 : Int64) (c0 : Int64) (c1 : Int64) (h0 : Heap) (n0 : Nat) (v : Option Value) (h : Heap) (L : List Loc) : Prop := v = none ∧ Fr n0 L ∧ Keep h0 h [oa, ea, ca] ∧ Exa Z h oa "com/example/foreslot/foreslot/CountsByEnd" ∧ Fld Z h oa "com/example/foreslot/foreslot/CountsByEnd" "ends" "[J" (.ref ea) ∧ Fld Z h oa "com/example/foreslot/foreslot/CountsByEnd" "counts" "[J" (.ref ca) ∧ ((∃ y0 y1 d0 d1 : Int64, Fld Z h oa "com/example/foreslot/foreslot/CountsByEnd" "size" "I" (.int (2 : Int32)) ∧ Arv Z h ea kE .long (16 : Int32) [(.long y0), (.long y1), (.long (0 : Int64)), (.long (0 : Int64))] (.long (0 : Int64)) ∧ Arv Z h ca kC .long (16 : Int32) [(.long d0), (.long d1), (.long (0 : Int64)), (.long (0 : Int64))] (.long (0 : Int64)) ∧ y0.toInt < y1.toInt ∧ 1 ≤ d0.toInt ∧ 1 ≤ d1.toInt ∧ d0.toInt + d1.toInt = c0.toInt + c1.toInt + qc.toInt ∧ (∀ s : Int, own_f y0.toInt s d0.toInt + own_f y1.toInt s d1.toInt = own_f x0.toInt s c0.toInt + own_f x1.toInt s c1.toInt + own_f qe.toInt s qc.toInt)) ∨ (∃ y0 y1 y2 d0 d1 d2 : Int64, Fld Z h oa "com/example/foreslot/foreslot/CountsByEnd" "size" "I" (.int (3 : Int32)) ∧ Arv Z h ea kE .long (16 : Int32) [(.long y0), (.long y1), (.long y2), (.long (0 : Int64))] (.long (0 : Int64)) ∧ Arv Z h ca kC .long (16 : Int32) [(.long d0), (.long d1), (.long d2), (.long (0 : Int64))] (.long (0 : Int64)) ∧ y0.toInt < y1.toInt ∧ y1.toInt < y2.toInt ∧ 1 ≤ d0.toInt ∧ 1 ≤ d1.toInt ∧ 1 ≤ d2.toInt ∧ d0.toInt + d1.toInt + d2.toInt = c0.toInt + c1.toInt + qc.toInt ∧ (∀ s : Int, own_f y0.toInt s d0.toInt + own_f y1.toInt s d1.toInt + own_f y2.toInt s d2.toInt = own_f x0.toInt s c0.toInt + own_f x1.toInt s c1.toInt + own_f qe.toInt s qc.toInt)))
set_option maxRecDepth 65536 in
set_option maxHeartbeats 40000000 in
theorem rm_add2 (l : Launch) (Z : State) (a0 : Array Value) (hw : ∀ d ∈ tables_1, d.before a0 Z = true) (ws : List Jvm.Cond) (oa : Addr) (qe : Int64) (qc : Int64) (ea : Addr) (ca : Addr) (kE : ClassId) (kC : ClassId) (x0 : Int64) (x1 : Int64) (c0 : Int64) (c1 : Int64) (h0 : Heap) (n0 : Nat) (Z0 : n0 ≤ h0.size) (Ea : Exa Z h0 oa "com/example/foreslot/foreslot/CountsByEnd") (F0 : Fld Z h0 oa "com/example/foreslot/foreslot/CountsByEnd" "ends" "[J" (.ref ea)) (F1 : Fld Z h0 oa "com/example/foreslot/foreslot/CountsByEnd" "counts" "[J" (.ref ca)) (F2 : Fld Z h0 oa "com/example/foreslot/foreslot/CountsByEnd" "size" "I" (.int (2 : Int32))) (V0 : Arv Z h0 ea kE .long (16 : Int32) [(.long x0), (.long x1), (.long (0 : Int64)), (.long (0 : Int64))] (.long (0 : Int64))) (V1 : Arv Z h0 ca kC .long (16 : Int32) [(.long c0), (.long c1), (.long (0 : Int64)), (.long (0 : Int64))] (.long (0 : Int64))) (ga : n0 ≤ oa) (ge : n0 ≤ ea) (gc : n0 ≤ ca) (nae : oa ≠ ea) (nac : oa ≠ ca) (nec : ea ≠ ca) (os0 : x0.toInt < x1.toInt) (kc0 : 1 ≤ c0.toInt) (kc1 : 1 ≤ c1.toInt) (kq : 1 ≤ qc.toInt) (kt : c0.toInt + c1.toInt + qc.toInt ≤ 100000) :
    MetFree l (⟨"com/example/foreslot/foreslot/CountsByEnd", "add", "(JJ)V"⟩ : MethodName) (head1 (Jvm.Cond.code (⟨"com/example/foreslot/foreslot/CountsByEnd", "add", "(JJ)V"⟩ : MethodName) prog_20_method_2_code 6 none :: ws) ({ frames := 2, cells := 0, slots := 0, locals := 37 } : Room)) (fun a U => a = #[(.ref oa), (.long qe), (.long qc)] ∧ Z.Warmed39 U.vm ∧ U.heap = h0) (fun _ _ _ _ _ => True) (fun _ U o U' => ∃ v L, o = .returned v ∧ Q_add2 Z oa qe qc ea ca kE kC x0 x1 c0 c1 h0 n0 v U'.heap L ∧ FrameEnd U o U' L ({ frames := 2, cells := 0, slots := 0, locals := 37 } : Room).cells ({ frames := 2, cells := 0, slots := 0, locals := 37 } : Room).slots) := by
  refine MetFree.of_bodySF (plainFor_of_name pn_1) hisR ?_
  intro p e s m args below meth c s₁ Bd hml0 hP hK
  obtain ⟨rfl, hZ, hh⟩ := hP
  have hx := Bd.exec
  have hby := Bd.bytes
  have hml : c.maxLocals = 6 := hml0
  have hown : s.vm.findClass "com/example/foreslot/foreslot/CountsByEnd" = some m.cls := findClass_of_methodNamed Bd.named
  have hnm := (name_of_methodNamed Bd.named Bd.method).1
  have X0 : Stand p l e ({ frames := 2, cells := 0, slots := 0, locals := 37 } : Room) s m #[(.ref oa), (.long qe), (.long qc)] below meth c s₁ [] 0 0 := Stand.of_body Bd
  have e0 : s₁.heap = h0 := by rw [← hh, Bd.state]; rfl
  have N0 := Fr.nil n0
  have pre0 : ∀ t, Steps p.tables e below (s₁.setTop (mkF m 0 #[.val (.ref oa), .val (.long qe), .second, .val (.long qc), .second, .unset] [])) t → Steps p.tables e below (s₁.setTop (entryFrame m #[(.ref oa), (.long qe), (.long qc)] 6)) t := fun t k => castTop (ef_rm_add2 m oa qe qc) k
  obtain ⟨T1, X1, e1, st1⟩ := getF X0 hx hZ hown (host := "") (Or.inl (hw _ (List.mem_of_getElem? (i := 10) rfl))) Via.refl e0 F0 (g := (mkF m 1 #[.val (.ref oa), .val (.long qe), .second, .val (.long qc), .second, .unset] [(.ref oa)])) rfl rfl (hb hby d4_1)
  obtain ⟨T2, X2, e2, st2⟩ := getF X1 hx hZ hown (host := "") (Or.inl (hw _ (List.mem_of_getElem? (i := 19) rfl))) Via.refl e1 F2 (g := (mkF m 6 #[.val (.ref oa), .val (.long qe), .second, .val (.long qc), .second, .unset] [(.ref oa), (.int (0 : Int32)), (.ref ea)])) rfl rfl (hb hby d4_6)
  obtain ⟨_, _, ⟨T3, L3, k3, n3⟩, -, X3, ⟨Lc3, hQ3, l3, y3, z3⟩, st3⟩ := Jvm.LawKit.callS X2 hx (y := (⟨"java/util/Arrays", "binarySearch", "([JIIJ)I"⟩ : MethodName)) hown (mvT hZ (hw _ (List.mem_of_getElem? (i := 26) rfl))) (mvT hZ (hw _ (List.mem_of_getElem? (i := 27) rfl))) (mvT hZ (hw _ (List.mem_of_getElem? (i := 28) rfl))) (mvT hZ (hw _ (List.mem_of_getElem? (i := 29) rfl))) (by decide) (backOf (W := 0) (rm_bs2 l Z a0 hw [] ea qe kE x0 x1 h0 n0 Z0 V0 os0) hZ (hw _ (List.mem_of_getElem? (i := 29) rfl)) (hw _ (List.mem_of_getElem? (i := 28) rfl)) (by decide) (by decide)) (g := (mkF m 10 #[.val (.ref oa), .val (.long qe), .second, .val (.long qc), .second, .unset] [(.long qe), (.int (2 : Int32)), (.int (0 : Int32)), (.ref ea)])) rfl (by rw [hml]; rfl) (argsL := [(.ref ea), (.int (0 : Int32)), (.int (2 : Int32)), (.long qe)]) (rest := []) (lenOf pd_1 rfl) rfl (by show 2 * 0 + _ ≤ _; exact Nat.le_of_eq rfl) (hb hby d4_10) (fun _ _ => ⟨rfl, e2, (by decide : 0 + 0 ≤ _), (by decide : 0 + 0 ≤ _)⟩)
  dsimp only [Pt.U, Pt.locs, Pt.cells, Pt.slots] at X3 l3 y3 z3 st3 hQ3
  subst l3 y3 z3
  obtain ⟨rb, rfl, hrb, N3q, e3⟩ := hQ3
  have N3 := Fr.app N0 N3q
  have pre4 : ∀ t, Steps p.tables e below (T3.setTop (mkF m 13 #[.val (.ref oa), .val (.long qe), .second, .val (.long qc), .second, .unset] [(.int rb)])) t → Steps p.tables e below (s₁.setTop (entryFrame m #[(.ref oa), (.long qe), (.long qc)] 6)) t := fun t kt => by
    refine pre0 _ ?_
    show Steps p.tables e below (s₁.setTop (mkF m 0 #[.val (.ref oa), .val (.long qe), .second, .val (.long qc), .second, .unset] [])) _
    refine XS.aloadN X0.here hx rfl (hb hby d4_0) rfl rfl ?_
    show Steps p.tables e below (s₁.setTop (mkF m 1 #[.val (.ref oa), .val (.long qe), .second, .val (.long qc), .second, .unset] [(.ref oa)])) _
    refine st1 _ ?_
    show Steps p.tables e below (T1.setTop (mkF m 4 #[.val (.ref oa), .val (.long qe), .second, .val (.long qc), .second, .unset] [(.ref ea)])) _
    refine XS.iconst X1.here hx rfl (hb hby d4_4) ?_
    show Steps p.tables e below (T1.setTop (mkF m 5 #[.val (.ref oa), .val (.long qe), .second, .val (.long qc), .second, .unset] [(.int (0 : Int32)), (.ref ea)])) _
    refine XS.aloadN X1.here hx rfl (hb hby d4_5) rfl rfl ?_
    show Steps p.tables e below (T1.setTop (mkF m 6 #[.val (.ref oa), .val (.long qe), .second, .val (.long qc), .second, .unset] [(.ref oa), (.int (0 : Int32)), (.ref ea)])) _
    refine st2 _ ?_
    show Steps p.tables e below (T2.setTop (mkF m 9 #[.val (.ref oa), .val (.long qe), .second, .val (.long qc), .second, .unset] [(.int (2 : Int32)), (.int (0 : Int32)), (.ref ea)])) _
    refine XS.lloadN X2.here hx rfl (hb hby d4_9) rfl ?_
    show Steps p.tables e below (T2.setTop (mkF m 10 #[.val (.ref oa), .val (.long qe), .second, .val (.long qc), .second, .unset] [(.long qe), (.int (2 : Int32)), (.int (0 : Int32)), (.ref ea)])) _
    refine st3 _ ?_
    exact kt
  rcases hrb with ⟨rfl, hq⟩ | ⟨rfl, hq⟩ | ⟨rfl, hq⟩ | ⟨rfl, hq, hq2⟩ | ⟨rfl, hq⟩
  · have pre5 : ∀ t, Steps p.tables e below (T3.setTop (mkF m 13 #[.val (.ref oa), .val (.long qe), .second, .val (.long qc), .second, .unset] [(.int (0 : Int32))])) t → Steps p.tables e below (s₁.setTop (entryFrame m #[(.ref oa), (.long qe), (.long qc)] 6)) t := pre4
    have hc17_6 : ¬ ((0 : Int) < (0 : Int)) := by decide
    obtain ⟨T7, X7, e7, st7⟩ := getF X3 hx hZ hown (host := "") (Or.inl (hw _ (List.mem_of_getElem? (i := 12) rfl))) Via.refl e3 F1 (g := (mkF m 21 #[.val (.ref oa), .val (.long qe), .second, .val (.long qc), .second, .val (.int (0 : Int32))] [(.ref oa)])) rfl rfl (hb hby d4_21)
    obtain ⟨cl8, Ar8, q8, S8, M8, H8, G8⟩ := id V1
    have hin8 : ¬ ((0 : Int32) < 0 ∨ cl8.slots.size ≤ ((0 : Int32)).toNatClampNeg) := inb_of S8 ⟨by decide, by decide⟩
    have hat8 : cl8.slots[((0 : Int32)).toNatClampNeg]? = some (.long c0) := Has.at H8 hin8 rfl
    obtain ⟨cl9, Ar9, q9, S9, M9, H9, G9⟩ := id V1
    have hin9 : ¬ ((0 : Int32) < 0 ∨ cl9.slots.size ≤ ((0 : Int32)).toNatClampNeg) := inb_of S9 ⟨by decide, by decide⟩
    obtain ⟨T10, h10, X10, e10, W10, st10⟩ := stJ X7 hx hZ e7 Ar9 (j := (0 : Int32)) hin9 (g := (mkF m 30 #[.val (.ref oa), .val (.long qe), .second, .val (.long qc), .second, .val (.int (0 : Int32))] [(.long (c0 + qc)), (.int (0 : Int32)), (.ref ca)])) rfl rfl (hb hby d4_30)
    have N10 := Fr.snoc X10 N3 gc
    have Zs11 : n0 ≤ h10.size := by rw [W10.size]; exact Z0
    have V10 : Arv Z h10 ca kC .long (16 : Int32) [(.long (c0 + qc)), (.long c1), (.long (0 : Int64)), (.long (0 : Int64))] (.long (0 : Int64)) := Arv.set Ar9 q9 S9 M9 H9 G9 rfl W10 0 rfl (Nat.le_of_ble_eq_true rfl)
    obtain ⟨fs, hr, hrun, hended, hW, hsame⟩ := X10.leave (v := none) (fun _ => rfl)
    refine ⟨_, _, pre5 _ ?_, hrun, hended, _, _, rfl, ?_, ⟨_, rfl⟩, hW, hsame.mono (by decide) (by decide)⟩
    · show Steps p.tables e below (T3.setTop (mkF m 13 #[.val (.ref oa), .val (.long qe), .second, .val (.long qc), .second, .unset] [(.int (0 : Int32))])) _
      refine XS.istore X3.here hx rfl (hb hby d4_13) rfl (l' := #[.val (.ref oa), .val (.long qe), .second, .val (.long qc), .second, .val (.int (0 : Int32))]) rfl ?_
      show Steps p.tables e below (T3.setTop (mkF m 15 #[.val (.ref oa), .val (.long qe), .second, .val (.long qc), .second, .val (.int (0 : Int32))] [])) _
      refine XS.iload X3.here hx rfl (hb hby d4_15) rfl ?_
      show Steps p.tables e below (T3.setTop (mkF m 17 #[.val (.ref oa), .val (.long qe), .second, .val (.long qc), .second, .val (.int (0 : Int32))] [(.int (0 : Int32))])) _
      refine XS.ifNo X3.here hx rfl (hb hby d4_17) rfl (own_if (own_flt (a := (0 : Int32)) (b := (0 : Int32)) (by decide) (by decide) hc17_6).1) ?_
      show Steps p.tables e below (T3.setTop (mkF m 20 #[.val (.ref oa), .val (.long qe), .second, .val (.long qc), .second, .val (.int (0 : Int32))] [])) _
      refine XS.aloadN X3.here hx rfl (hb hby d4_20) rfl rfl ?_
      show Steps p.tables e below (T3.setTop (mkF m 21 #[.val (.ref oa), .val (.long qe), .second, .val (.long qc), .second, .val (.int (0 : Int32))] [(.ref oa)])) _
      refine st7 _ ?_
      show Steps p.tables e below (T7.setTop (mkF m 24 #[.val (.ref oa), .val (.long qe), .second, .val (.long qc), .second, .val (.int (0 : Int32))] [(.ref ca)])) _
      refine XS.iload X7.here hx rfl (hb hby d4_24) rfl ?_
      show Steps p.tables e below (T7.setTop (mkF m 26 #[.val (.ref oa), .val (.long qe), .second, .val (.long qc), .second, .val (.int (0 : Int32))] [(.int (0 : Int32)), (.ref ca)])) _
      jvm_step X7.here [X7.here.top, hx, (hb hby d4_26), Value.category]
      show Steps p.tables e below (T7.setTop (mkF m 27 #[.val (.ref oa), .val (.long qe), .second, .val (.long qc), .second, .val (.int (0 : Int32))] [(.int (0 : Int32)), (.ref ca), (.int (0 : Int32)), (.ref ca)])) _
      refine X7.laload hx (j := (0 : Int32)) (v := (.long c0)) (by rw [e7]; exact Ar8.1) (State.isArrayOf_alike hZ.alike Ar8.2.1) Ar8.2.2 hin8 hat8 (g := (mkF m 27 #[.val (.ref oa), .val (.long qe), .second, .val (.long qc), .second, .val (.int (0 : Int32))] [(.int (0 : Int32)), (.ref ca), (.int (0 : Int32)), (.ref ca)])) rfl rfl (hb hby d4_27) _ ?_
      show Steps p.tables e below (T7.setTop (mkF m 28 #[.val (.ref oa), .val (.long qe), .second, .val (.long qc), .second, .val (.int (0 : Int32))] [(.long c0), (.int (0 : Int32)), (.ref ca)])) _
      refine XS.lloadN X7.here hx rfl (hb hby d4_28) rfl ?_
      show Steps p.tables e below (T7.setTop (mkF m 29 #[.val (.ref oa), .val (.long qe), .second, .val (.long qc), .second, .val (.int (0 : Int32))] [(.long qc), (.long c0), (.int (0 : Int32)), (.ref ca)])) _
      refine XS.ladd X7.here hx rfl (hb hby d4_29) rfl ?_
      show Steps p.tables e below (T7.setTop (mkF m 30 #[.val (.ref oa), .val (.long qe), .second, .val (.long qc), .second, .val (.int (0 : Int32))] [(.long (c0 + qc)), (.int (0 : Int32)), (.ref ca)])) _
      refine st10 _ ?_
      show Steps p.tables e below (T10.setTop (mkF m 31 #[.val (.ref oa), .val (.long qe), .second, .val (.long qc), .second, .val (.int (0 : Int32))] [])) _
      exact X10.returnOut hx Bd.returns (hb hby d4_31) hr
    · show Q_add2 Z oa qe qc ea ca kE kC x0 x1 c0 c1 h0 n0 _ T10.heap _
      rw [e10]
      have f12 := ((Keep.refl h0 [oa, ea, ca]).wr W10 (Or.inl (List.mem_of_getElem? (i := 2) rfl)))
      have f13 := (Ea.wr W10)
      have f14 := (F0.other W10 (Or.inl nac))
      have f15 := (F1.other W10 (Or.inl nac))
      have f16 := (F2.other W10 (Or.inl nac))
      have f17 := (V0.other W10 nec)
      have iadd : ((c0 + qc)).toInt = c0.toInt + qc.toInt := by have := rng64 c0; have := rng64 qc; have : (((c0 + qc)).toInt - (c0.toInt + qc.toInt)) % 18446744073709551616 = 0 := c_ladd c0 qc; have := rng64 (c0 + qc); omega
      exact ⟨rfl, N10, f12, f13, f14, f15, Or.inl ⟨x0, x1, (c0 + qc), c1, f16, f17, V10, by omega, by omega, by omega, by omega, fun s => by rw [iadd, show qe.toInt = x0.toInt from hq.symm]; unfold own_f; split <;> omega⟩⟩
  · have pre18 : ∀ t, Steps p.tables e below (T3.setTop (mkF m 13 #[.val (.ref oa), .val (.long qe), .second, .val (.long qc), .second, .unset] [(.int (1 : Int32))])) t → Steps p.tables e below (s₁.setTop (entryFrame m #[(.ref oa), (.long qe), (.long qc)] 6)) t := pre4
    have hc17_19 : ¬ ((1 : Int) < (0 : Int)) := by decide
    obtain ⟨T20, X20, e20, st20⟩ := getF X3 hx hZ hown (host := "") (Or.inl (hw _ (List.mem_of_getElem? (i := 12) rfl))) Via.refl e3 F1 (g := (mkF m 21 #[.val (.ref oa), .val (.long qe), .second, .val (.long qc), .second, .val (.int (1 : Int32))] [(.ref oa)])) rfl rfl (hb hby d4_21)
    obtain ⟨cl21, Ar21, q21, S21, M21, H21, G21⟩ := id V1
    have hin21 : ¬ ((1 : Int32) < 0 ∨ cl21.slots.size ≤ ((1 : Int32)).toNatClampNeg) := inb_of S21 ⟨by decide, by decide⟩
    have hat21 : cl21.slots[((1 : Int32)).toNatClampNeg]? = some (.long c1) := Has.at H21 hin21 rfl
    obtain ⟨cl22, Ar22, q22, S22, M22, H22, G22⟩ := id V1
    have hin22 : ¬ ((1 : Int32) < 0 ∨ cl22.slots.size ≤ ((1 : Int32)).toNatClampNeg) := inb_of S22 ⟨by decide, by decide⟩
    obtain ⟨T23, h23, X23, e23, W23, st23⟩ := stJ X20 hx hZ e20 Ar22 (j := (1 : Int32)) hin22 (g := (mkF m 30 #[.val (.ref oa), .val (.long qe), .second, .val (.long qc), .second, .val (.int (1 : Int32))] [(.long (c1 + qc)), (.int (1 : Int32)), (.ref ca)])) rfl rfl (hb hby d4_30)
    have N23 := Fr.snoc X23 N3 gc
    have Zs24 : n0 ≤ h23.size := by rw [W23.size]; exact Z0
    have V23 : Arv Z h23 ca kC .long (16 : Int32) [(.long c0), (.long (c1 + qc)), (.long (0 : Int64)), (.long (0 : Int64))] (.long (0 : Int64)) := Arv.set Ar22 q22 S22 M22 H22 G22 rfl W23 1 rfl (Nat.le_of_ble_eq_true rfl)
    obtain ⟨fs, hr, hrun, hended, hW, hsame⟩ := X23.leave (v := none) (fun _ => rfl)
    refine ⟨_, _, pre18 _ ?_, hrun, hended, _, _, rfl, ?_, ⟨_, rfl⟩, hW, hsame.mono (by decide) (by decide)⟩
    · show Steps p.tables e below (T3.setTop (mkF m 13 #[.val (.ref oa), .val (.long qe), .second, .val (.long qc), .second, .unset] [(.int (1 : Int32))])) _
      refine XS.istore X3.here hx rfl (hb hby d4_13) rfl (l' := #[.val (.ref oa), .val (.long qe), .second, .val (.long qc), .second, .val (.int (1 : Int32))]) rfl ?_
      show Steps p.tables e below (T3.setTop (mkF m 15 #[.val (.ref oa), .val (.long qe), .second, .val (.long qc), .second, .val (.int (1 : Int32))] [])) _
      refine XS.iload X3.here hx rfl (hb hby d4_15) rfl ?_
      show Steps p.tables e below (T3.setTop (mkF m 17 #[.val (.ref oa), .val (.long qe), .second, .val (.long qc), .second, .val (.int (1 : Int32))] [(.int (1 : Int32))])) _
      refine XS.ifNo X3.here hx rfl (hb hby d4_17) rfl (own_if (own_flt (a := (1 : Int32)) (b := (0 : Int32)) (by decide) (by decide) hc17_19).1) ?_
      show Steps p.tables e below (T3.setTop (mkF m 20 #[.val (.ref oa), .val (.long qe), .second, .val (.long qc), .second, .val (.int (1 : Int32))] [])) _
      refine XS.aloadN X3.here hx rfl (hb hby d4_20) rfl rfl ?_
      show Steps p.tables e below (T3.setTop (mkF m 21 #[.val (.ref oa), .val (.long qe), .second, .val (.long qc), .second, .val (.int (1 : Int32))] [(.ref oa)])) _
      refine st20 _ ?_
      show Steps p.tables e below (T20.setTop (mkF m 24 #[.val (.ref oa), .val (.long qe), .second, .val (.long qc), .second, .val (.int (1 : Int32))] [(.ref ca)])) _
      refine XS.iload X20.here hx rfl (hb hby d4_24) rfl ?_
      show Steps p.tables e below (T20.setTop (mkF m 26 #[.val (.ref oa), .val (.long qe), .second, .val (.long qc), .second, .val (.int (1 : Int32))] [(.int (1 : Int32)), (.ref ca)])) _
      jvm_step X20.here [X20.here.top, hx, (hb hby d4_26), Value.category]
      show Steps p.tables e below (T20.setTop (mkF m 27 #[.val (.ref oa), .val (.long qe), .second, .val (.long qc), .second, .val (.int (1 : Int32))] [(.int (1 : Int32)), (.ref ca), (.int (1 : Int32)), (.ref ca)])) _
      refine X20.laload hx (j := (1 : Int32)) (v := (.long c1)) (by rw [e20]; exact Ar21.1) (State.isArrayOf_alike hZ.alike Ar21.2.1) Ar21.2.2 hin21 hat21 (g := (mkF m 27 #[.val (.ref oa), .val (.long qe), .second, .val (.long qc), .second, .val (.int (1 : Int32))] [(.int (1 : Int32)), (.ref ca), (.int (1 : Int32)), (.ref ca)])) rfl rfl (hb hby d4_27) _ ?_
      show Steps p.tables e below (T20.setTop (mkF m 28 #[.val (.ref oa), .val (.long qe), .second, .val (.long qc), .second, .val (.int (1 : Int32))] [(.long c1), (.int (1 : Int32)), (.ref ca)])) _
      refine XS.lloadN X20.here hx rfl (hb hby d4_28) rfl ?_
      show Steps p.tables e below (T20.setTop (mkF m 29 #[.val (.ref oa), .val (.long qe), .second, .val (.long qc), .second, .val (.int (1 : Int32))] [(.long qc), (.long c1), (.int (1 : Int32)), (.ref ca)])) _
      refine XS.ladd X20.here hx rfl (hb hby d4_29) rfl ?_
      show Steps p.tables e below (T20.setTop (mkF m 30 #[.val (.ref oa), .val (.long qe), .second, .val (.long qc), .second, .val (.int (1 : Int32))] [(.long (c1 + qc)), (.int (1 : Int32)), (.ref ca)])) _
      refine st23 _ ?_
      show Steps p.tables e below (T23.setTop (mkF m 31 #[.val (.ref oa), .val (.long qe), .second, .val (.long qc), .second, .val (.int (1 : Int32))] [])) _
      exact X23.returnOut hx Bd.returns (hb hby d4_31) hr
    · show Q_add2 Z oa qe qc ea ca kE kC x0 x1 c0 c1 h0 n0 _ T23.heap _
      rw [e23]
      have f25 := ((Keep.refl h0 [oa, ea, ca]).wr W23 (Or.inl (List.mem_of_getElem? (i := 2) rfl)))
      have f26 := (Ea.wr W23)
      have f27 := (F0.other W23 (Or.inl nac))
      have f28 := (F1.other W23 (Or.inl nac))
      have f29 := (F2.other W23 (Or.inl nac))
      have f30 := (V0.other W23 nec)
      have iadd : ((c1 + qc)).toInt = c1.toInt + qc.toInt := by have := rng64 c1; have := rng64 qc; have : (((c1 + qc)).toInt - (c1.toInt + qc.toInt)) % 18446744073709551616 = 0 := c_ladd c1 qc; have := rng64 (c1 + qc); omega
      exact ⟨rfl, N23, f25, f26, f27, f28, Or.inl ⟨x0, x1, c0, (c1 + qc), f29, f30, V23, by omega, by omega, by omega, by omega, fun s => by rw [iadd, show qe.toInt = x1.toInt from hq.symm]; unfold own_f; split <;> omega⟩⟩
  · have pre31 : ∀ t, Steps p.tables e below (T3.setTop (mkF m 13 #[.val (.ref oa), .val (.long qe), .second, .val (.long qc), .second, .unset] [(.int (-1 : Int32))])) t → Steps p.tables e below (s₁.setTop (entryFrame m #[(.ref oa), (.long qe), (.long qc)] 6)) t := pre4
    have hc17_32 : (-1 : Int) < (0 : Int) := by decide
    obtain ⟨T33, X33, e33, st33⟩ := getF X3 hx hZ hown (host := "") (Or.inl (hw _ (List.mem_of_getElem? (i := 19) rfl))) Via.refl e3 F2 (g := (mkF m 40 #[.val (.ref oa), .val (.long qe), .second, .val (.long qc), .second, .val (.int (0 : Int32))] [(.ref oa)])) rfl rfl (hb hby d4_40)
    obtain ⟨T34, X34, e34, st34⟩ := getF X33 hx hZ hown (host := "") (Or.inl (hw _ (List.mem_of_getElem? (i := 10) rfl))) Via.refl e33 F0 (g := (mkF m 44 #[.val (.ref oa), .val (.long qe), .second, .val (.long qc), .second, .val (.int (0 : Int32))] [(.ref oa), (.int (2 : Int32))])) rfl rfl (hb hby d4_44)
    obtain ⟨cl35, Ar35, q35, S35, M35, H35, G35⟩ := id V0
    have hc48_36 : ¬ ((2 : Int) = (16 : Int)) := by decide
    obtain ⟨T37, X37, e37, st37⟩ := getF X34 hx hZ hown (host := "") (Or.inl (hw _ (List.mem_of_getElem? (i := 10) rfl))) Via.refl e34 F0 (g := (mkF m 86 #[.val (.ref oa), .val (.long qe), .second, .val (.long qc), .second, .val (.int (0 : Int32))] [(.ref oa)])) rfl rfl (hb hby d4_86)
    obtain ⟨T38, X38, e38, st38⟩ := getF X37 hx hZ hown (host := "") (Or.inl (hw _ (List.mem_of_getElem? (i := 10) rfl))) Via.refl e37 F0 (g := (mkF m 92 #[.val (.ref oa), .val (.long qe), .second, .val (.long qc), .second, .val (.int (0 : Int32))] [(.ref oa), (.int (0 : Int32)), (.ref ea)])) rfl rfl (hb hby d4_92)
    obtain ⟨T39, X39, e39, st39⟩ := getF X38 hx hZ hown (host := "") (Or.inl (hw _ (List.mem_of_getElem? (i := 19) rfl))) Via.refl e38 F2 (g := (mkF m 100 #[.val (.ref oa), .val (.long qe), .second, .val (.long qc), .second, .val (.int (0 : Int32))] [(.ref oa), (.int (1 : Int32)), (.ref ea), (.int (0 : Int32)), (.ref ea)])) rfl rfl (hb hby d4_100)
    obtain ⟨T40, h40, L40, X40, e40, N40, K40, V40, st40⟩ := cpA X39 hx hZ hown (hw _ (List.mem_of_getElem? (i := 36) rfl)) (hw _ (List.mem_of_getElem? (i := 39) rfl)) (hw _ (List.mem_of_getElem? (i := 37) rfl)) (hw _ (List.mem_of_getElem? (i := 38) rfl)) e39 V0 V0 (Or.inl ⟨rfl, rfl⟩) (by decide : ¬ (0 : Int32) < 0) (by decide : ¬ (1 : Int32) < 0) (by decide : ¬ (2 : Int32) < 0) (by decide) (by decide) (us := [(.long x0), (.long x1)]) rfl (Nat.le_of_ble_eq_true rfl) N3 ge (g := (mkF m 106 #[.val (.ref oa), .val (.long qe), .second, .val (.long qc), .second, .val (.int (0 : Int32))] [(.int (2 : Int32)), (.int (1 : Int32)), (.ref ea), (.int (0 : Int32)), (.ref ea)])) rfl (by rw [hml]; rfl) (rest := []) rfl (hb hby d4_106) (by decide) (W := 0) (by show 2 * 0 + _ ≤ _; exact Nat.le_of_eq rfl) (by decide)
    have Zs41 : n0 ≤ h40.size := Nat.le_trans Z0 K40.1
    have Vc40 : Arv Z h40 ea kE .long (16 : Int32) [(.long x0), (.long x0), (.long x1), (.long (0 : Int64))] (.long (0 : Int64)) := V40
    have f42 := (F1.keep K40 (ninS nae nin0))
    obtain ⟨T43, X43, e43, st43⟩ := getF X40 hx hZ hown (host := "") (Or.inl (hw _ (List.mem_of_getElem? (i := 12) rfl))) Via.refl e40 f42 (g := (mkF m 110 #[.val (.ref oa), .val (.long qe), .second, .val (.long qc), .second, .val (.int (0 : Int32))] [(.ref oa)])) rfl rfl (hb hby d4_110)
    obtain ⟨T44, X44, e44, st44⟩ := getF X43 hx hZ hown (host := "") (Or.inl (hw _ (List.mem_of_getElem? (i := 12) rfl))) Via.refl e43 f42 (g := (mkF m 116 #[.val (.ref oa), .val (.long qe), .second, .val (.long qc), .second, .val (.int (0 : Int32))] [(.ref oa), (.int (0 : Int32)), (.ref ca)])) rfl rfl (hb hby d4_116)
    have f45 := (F2.keep K40 (ninS nae nin0))
    obtain ⟨T46, X46, e46, st46⟩ := getF X44 hx hZ hown (host := "") (Or.inl (hw _ (List.mem_of_getElem? (i := 19) rfl))) Via.refl e44 f45 (g := (mkF m 124 #[.val (.ref oa), .val (.long qe), .second, .val (.long qc), .second, .val (.int (0 : Int32))] [(.ref oa), (.int (1 : Int32)), (.ref ca), (.int (0 : Int32)), (.ref ca)])) rfl rfl (hb hby d4_124)
    have f47 := (V1.keep K40 (ninS (Ne.symm nec) nin0))
    obtain ⟨T48, h48, L48, X48, e48, N48, K48, V48, st48⟩ := cpA X46 hx hZ hown (hw _ (List.mem_of_getElem? (i := 36) rfl)) (hw _ (List.mem_of_getElem? (i := 39) rfl)) (hw _ (List.mem_of_getElem? (i := 37) rfl)) (hw _ (List.mem_of_getElem? (i := 38) rfl)) e46 f47 f47 (Or.inl ⟨rfl, rfl⟩) (by decide : ¬ (0 : Int32) < 0) (by decide : ¬ (1 : Int32) < 0) (by decide : ¬ (2 : Int32) < 0) (by decide) (by decide) (us := [(.long c0), (.long c1)]) rfl (Nat.le_of_ble_eq_true rfl) N40 gc (g := (mkF m 130 #[.val (.ref oa), .val (.long qe), .second, .val (.long qc), .second, .val (.int (0 : Int32))] [(.int (2 : Int32)), (.int (1 : Int32)), (.ref ca), (.int (0 : Int32)), (.ref ca)])) rfl (by rw [hml]; rfl) (rest := []) rfl (hb hby d4_130) (by decide) (W := 0) (by show 2 * 0 + _ ≤ _; exact Nat.le_of_eq rfl) (by decide)
    have Zs49 : n0 ≤ h48.size := Nat.le_trans Zs41 K48.1
    have Vc48 : Arv Z h48 ca kC .long (16 : Int32) [(.long c0), (.long c0), (.long c1), (.long (0 : Int64))] (.long (0 : Int64)) := V48
    have f50 := ((F0.keep K40 (ninS nae nin0)).keep K48 (ninS nac nin0))
    obtain ⟨T51, X51, e51, st51⟩ := getF X48 hx hZ hown (host := "") (Or.inl (hw _ (List.mem_of_getElem? (i := 10) rfl))) Via.refl e48 f50 (g := (mkF m 134 #[.val (.ref oa), .val (.long qe), .second, .val (.long qc), .second, .val (.int (0 : Int32))] [(.ref oa)])) rfl rfl (hb hby d4_134)
    have f52 := (Vc40.keep K48 (ninS nec nin0))
    obtain ⟨cl53, Ar53, q53, S53, M53, H53, G53⟩ := id f52
    have hin53 : ¬ ((0 : Int32) < 0 ∨ cl53.slots.size ≤ ((0 : Int32)).toNatClampNeg) := inb_of S53 ⟨by decide, by decide⟩
    obtain ⟨T54, h54, X54, e54, W54, st54⟩ := stJ X51 hx hZ e51 Ar53 (j := (0 : Int32)) hin53 (g := (mkF m 140 #[.val (.ref oa), .val (.long qe), .second, .val (.long qc), .second, .val (.int (0 : Int32))] [(.long qe), (.int (0 : Int32)), (.ref ea)])) rfl rfl (hb hby d4_140)
    have N54 := Fr.snoc X54 N48 ge
    have Zs55 : n0 ≤ h54.size := by rw [W54.size]; exact Zs49
    have V54 : Arv Z h54 ea kE .long (16 : Int32) [(.long qe), (.long x0), (.long x1), (.long (0 : Int64))] (.long (0 : Int64)) := Arv.set Ar53 q53 S53 M53 H53 G53 rfl W54 0 rfl (Nat.le_of_ble_eq_true rfl)
    have f56 := ((f42.keep K48 (ninS nac nin0)).other W54 (Or.inl nae))
    obtain ⟨T57, X57, e57, st57⟩ := getF X54 hx hZ hown (host := "") (Or.inl (hw _ (List.mem_of_getElem? (i := 12) rfl))) Via.refl e54 f56 (g := (mkF m 142 #[.val (.ref oa), .val (.long qe), .second, .val (.long qc), .second, .val (.int (0 : Int32))] [(.ref oa)])) rfl rfl (hb hby d4_142)
    have f58 := (Vc48.other W54 (Ne.symm nec))
    obtain ⟨cl59, Ar59, q59, S59, M59, H59, G59⟩ := id f58
    have hin59 : ¬ ((0 : Int32) < 0 ∨ cl59.slots.size ≤ ((0 : Int32)).toNatClampNeg) := inb_of S59 ⟨by decide, by decide⟩
    obtain ⟨T60, h60, X60, e60, W60, st60⟩ := stJ X57 hx hZ e57 Ar59 (j := (0 : Int32)) hin59 (g := (mkF m 148 #[.val (.ref oa), .val (.long qe), .second, .val (.long qc), .second, .val (.int (0 : Int32))] [(.long qc), (.int (0 : Int32)), (.ref ca)])) rfl rfl (hb hby d4_148)
    have N60 := Fr.snoc X60 N54 gc
    have Zs61 : n0 ≤ h60.size := by rw [W60.size]; exact Zs55
    have V60 : Arv Z h60 ca kC .long (16 : Int32) [(.long qc), (.long c0), (.long c1), (.long (0 : Int64))] (.long (0 : Int64)) := Arv.set Ar59 q59 S59 M59 H59 G59 rfl W60 0 rfl (Nat.le_of_ble_eq_true rfl)
    have f62 := (((f45.keep K48 (ninS nac nin0)).other W54 (Or.inl nae)).other W60 (Or.inl nac))
    obtain ⟨T63, X63, e63, st63⟩ := getF X60 hx hZ hown (host := "") (Or.inl (hw _ (List.mem_of_getElem? (i := 19) rfl))) Via.refl e60 f62 (g := (mkF m 151 #[.val (.ref oa), .val (.long qe), .second, .val (.long qc), .second, .val (.int (0 : Int32))] [(.ref oa), (.ref oa)])) rfl rfl (hb hby d4_151)
    have f64 := ((((Ea.keep K40).keep K48).wr W54).wr W60)
    obtain ⟨T65, h65, X65, e65, W65, st65⟩ := putF X63 hx hZ hown (host := "") (Or.inl (hw _ (List.mem_of_getElem? (i := 19) rfl))) Via.refl e63 f62 f64 (Or.inl (hw _ (List.mem_of_getElem? (i := 20) rfl))) (hw _ (List.mem_of_getElem? (i := 1) rfl)) (ty := .int) (by decide) rfl rfl (g := (mkF m 156 #[.val (.ref oa), .val (.long qe), .second, .val (.long qc), .second, .val (.int (0 : Int32))] [(.int (3 : Int32)), (.ref oa)])) rfl rfl (hb hby d4_156)
    have N65 := Fr.snoc X65 N60 ga
    have Zs66 : n0 ≤ h65.size := by rw [W65.size]; exact Zs61
    have Fw65 := f62.same W65
    obtain ⟨fs, hr, hrun, hended, hW, hsame⟩ := X65.leave (v := none) (fun _ => rfl)
    refine ⟨_, _, pre31 _ ?_, hrun, hended, _, _, rfl, ?_, ⟨_, rfl⟩, hW, hsame.mono (by decide) (by decide)⟩
    · show Steps p.tables e below (T3.setTop (mkF m 13 #[.val (.ref oa), .val (.long qe), .second, .val (.long qc), .second, .unset] [(.int (-1 : Int32))])) _
      refine XS.istore X3.here hx rfl (hb hby d4_13) rfl (l' := #[.val (.ref oa), .val (.long qe), .second, .val (.long qc), .second, .val (.int (-1 : Int32))]) rfl ?_
      show Steps p.tables e below (T3.setTop (mkF m 15 #[.val (.ref oa), .val (.long qe), .second, .val (.long qc), .second, .val (.int (-1 : Int32))] [])) _
      refine XS.iload X3.here hx rfl (hb hby d4_15) rfl ?_
      show Steps p.tables e below (T3.setTop (mkF m 17 #[.val (.ref oa), .val (.long qe), .second, .val (.long qc), .second, .val (.int (-1 : Int32))] [(.int (-1 : Int32))])) _
      refine XS.ifYes X3.here hx rfl (pc0 := 17) (pc' := 32) rfl (hb hby d4_17) rfl (own_if (own_tlt (a := (-1 : Int32)) (b := (0 : Int32)) (by decide) (by decide) hc17_32).1) (by decide) (by decide) ?_
      show Steps p.tables e below (T3.setTop (mkF m 32 #[.val (.ref oa), .val (.long qe), .second, .val (.long qc), .second, .val (.int (-1 : Int32))] [])) _
      refine XS.iload X3.here hx rfl (hb hby d4_32) rfl ?_
      show Steps p.tables e below (T3.setTop (mkF m 34 #[.val (.ref oa), .val (.long qe), .second, .val (.long qc), .second, .val (.int (-1 : Int32))] [(.int (-1 : Int32))])) _
      refine XS.ineg X3.here hx rfl (hb hby d4_34) rfl ?_
      show Steps p.tables e below (T3.setTop (mkF m 35 #[.val (.ref oa), .val (.long qe), .second, .val (.long qc), .second, .val (.int (-1 : Int32))] [(.int (1 : Int32))])) _
      refine XS.iconst X3.here hx rfl (hb hby d4_35) ?_
      show Steps p.tables e below (T3.setTop (mkF m 36 #[.val (.ref oa), .val (.long qe), .second, .val (.long qc), .second, .val (.int (-1 : Int32))] [(.int (1 : Int32)), (.int (1 : Int32))])) _
      refine XS.isub X3.here hx rfl (hb hby d4_36) rfl ?_
      show Steps p.tables e below (T3.setTop (mkF m 37 #[.val (.ref oa), .val (.long qe), .second, .val (.long qc), .second, .val (.int (-1 : Int32))] [(.int (0 : Int32))])) _
      refine XS.istore X3.here hx rfl (hb hby d4_37) rfl (l' := #[.val (.ref oa), .val (.long qe), .second, .val (.long qc), .second, .val (.int (0 : Int32))]) rfl ?_
      show Steps p.tables e below (T3.setTop (mkF m 39 #[.val (.ref oa), .val (.long qe), .second, .val (.long qc), .second, .val (.int (0 : Int32))] [])) _
      refine XS.aloadN X3.here hx rfl (hb hby d4_39) rfl rfl ?_
      show Steps p.tables e below (T3.setTop (mkF m 40 #[.val (.ref oa), .val (.long qe), .second, .val (.long qc), .second, .val (.int (0 : Int32))] [(.ref oa)])) _
      refine st33 _ ?_
      show Steps p.tables e below (T33.setTop (mkF m 43 #[.val (.ref oa), .val (.long qe), .second, .val (.long qc), .second, .val (.int (0 : Int32))] [(.int (2 : Int32))])) _
      refine XS.aloadN X33.here hx rfl (hb hby d4_43) rfl rfl ?_
      show Steps p.tables e below (T33.setTop (mkF m 44 #[.val (.ref oa), .val (.long qe), .second, .val (.long qc), .second, .val (.int (0 : Int32))] [(.ref oa), (.int (2 : Int32))])) _
      refine st34 _ ?_
      show Steps p.tables e below (T34.setTop (mkF m 47 #[.val (.ref oa), .val (.long qe), .second, .val (.long qc), .second, .val (.int (0 : Int32))] [(.ref ea), (.int (2 : Int32))])) _
      refine X34.arraylength hx (by rw [e34]; exact Ar35.1) (State.isArrayOf_alike hZ.alike Ar35.2.1) (g := (mkF m 47 #[.val (.ref oa), .val (.long qe), .second, .val (.long qc), .second, .val (.int (0 : Int32))] [(.ref ea), (.int (2 : Int32))])) rfl rfl (hb hby d4_47) _ ?_
      rw [len_of S35 M35]
      show Steps p.tables e below (T34.setTop (mkF m 48 #[.val (.ref oa), .val (.long qe), .second, .val (.long qc), .second, .val (.int (0 : Int32))] [(.int (16 : Int32)), (.int (2 : Int32))])) _
      refine XS.icmpYes X34.here hx rfl (pc0 := 48) (pc' := 85) rfl (hb hby d4_48) rfl (own_feq (a := (2 : Int32)) (b := (16 : Int32)) (by decide) (by decide) hc48_36).2 (by decide) (by decide) ?_
      show Steps p.tables e below (T34.setTop (mkF m 85 #[.val (.ref oa), .val (.long qe), .second, .val (.long qc), .second, .val (.int (0 : Int32))] [])) _
      refine XS.aloadN X34.here hx rfl (hb hby d4_85) rfl rfl ?_
      show Steps p.tables e below (T34.setTop (mkF m 86 #[.val (.ref oa), .val (.long qe), .second, .val (.long qc), .second, .val (.int (0 : Int32))] [(.ref oa)])) _
      refine st37 _ ?_
      show Steps p.tables e below (T37.setTop (mkF m 89 #[.val (.ref oa), .val (.long qe), .second, .val (.long qc), .second, .val (.int (0 : Int32))] [(.ref ea)])) _
      refine XS.iload X37.here hx rfl (hb hby d4_89) rfl ?_
      show Steps p.tables e below (T37.setTop (mkF m 91 #[.val (.ref oa), .val (.long qe), .second, .val (.long qc), .second, .val (.int (0 : Int32))] [(.int (0 : Int32)), (.ref ea)])) _
      refine XS.aloadN X37.here hx rfl (hb hby d4_91) rfl rfl ?_
      show Steps p.tables e below (T37.setTop (mkF m 92 #[.val (.ref oa), .val (.long qe), .second, .val (.long qc), .second, .val (.int (0 : Int32))] [(.ref oa), (.int (0 : Int32)), (.ref ea)])) _
      refine st38 _ ?_
      show Steps p.tables e below (T38.setTop (mkF m 95 #[.val (.ref oa), .val (.long qe), .second, .val (.long qc), .second, .val (.int (0 : Int32))] [(.ref ea), (.int (0 : Int32)), (.ref ea)])) _
      refine XS.iload X38.here hx rfl (hb hby d4_95) rfl ?_
      show Steps p.tables e below (T38.setTop (mkF m 97 #[.val (.ref oa), .val (.long qe), .second, .val (.long qc), .second, .val (.int (0 : Int32))] [(.int (0 : Int32)), (.ref ea), (.int (0 : Int32)), (.ref ea)])) _
      refine XS.iconst X38.here hx rfl (hb hby d4_97) ?_
      show Steps p.tables e below (T38.setTop (mkF m 98 #[.val (.ref oa), .val (.long qe), .second, .val (.long qc), .second, .val (.int (0 : Int32))] [(.int (1 : Int32)), (.int (0 : Int32)), (.ref ea), (.int (0 : Int32)), (.ref ea)])) _
      refine XS.iadd X38.here hx rfl (hb hby d4_98) rfl ?_
      show Steps p.tables e below (T38.setTop (mkF m 99 #[.val (.ref oa), .val (.long qe), .second, .val (.long qc), .second, .val (.int (0 : Int32))] [(.int (1 : Int32)), (.ref ea), (.int (0 : Int32)), (.ref ea)])) _
      refine XS.aloadN X38.here hx rfl (hb hby d4_99) rfl rfl ?_
      show Steps p.tables e below (T38.setTop (mkF m 100 #[.val (.ref oa), .val (.long qe), .second, .val (.long qc), .second, .val (.int (0 : Int32))] [(.ref oa), (.int (1 : Int32)), (.ref ea), (.int (0 : Int32)), (.ref ea)])) _
      refine st39 _ ?_
      show Steps p.tables e below (T39.setTop (mkF m 103 #[.val (.ref oa), .val (.long qe), .second, .val (.long qc), .second, .val (.int (0 : Int32))] [(.int (2 : Int32)), (.int (1 : Int32)), (.ref ea), (.int (0 : Int32)), (.ref ea)])) _
      refine XS.iload X39.here hx rfl (hb hby d4_103) rfl ?_
      show Steps p.tables e below (T39.setTop (mkF m 105 #[.val (.ref oa), .val (.long qe), .second, .val (.long qc), .second, .val (.int (0 : Int32))] [(.int (0 : Int32)), (.int (2 : Int32)), (.int (1 : Int32)), (.ref ea), (.int (0 : Int32)), (.ref ea)])) _
      refine XS.isub X39.here hx rfl (hb hby d4_105) rfl ?_
      show Steps p.tables e below (T39.setTop (mkF m 106 #[.val (.ref oa), .val (.long qe), .second, .val (.long qc), .second, .val (.int (0 : Int32))] [(.int (2 : Int32)), (.int (1 : Int32)), (.ref ea), (.int (0 : Int32)), (.ref ea)])) _
      refine st40 _ ?_
      show Steps p.tables e below (T40.setTop (mkF m 109 #[.val (.ref oa), .val (.long qe), .second, .val (.long qc), .second, .val (.int (0 : Int32))] [])) _
      refine XS.aloadN X40.here hx rfl (hb hby d4_109) rfl rfl ?_
      show Steps p.tables e below (T40.setTop (mkF m 110 #[.val (.ref oa), .val (.long qe), .second, .val (.long qc), .second, .val (.int (0 : Int32))] [(.ref oa)])) _
      refine st43 _ ?_
      show Steps p.tables e below (T43.setTop (mkF m 113 #[.val (.ref oa), .val (.long qe), .second, .val (.long qc), .second, .val (.int (0 : Int32))] [(.ref ca)])) _
      refine XS.iload X43.here hx rfl (hb hby d4_113) rfl ?_
      show Steps p.tables e below (T43.setTop (mkF m 115 #[.val (.ref oa), .val (.long qe), .second, .val (.long qc), .second, .val (.int (0 : Int32))] [(.int (0 : Int32)), (.ref ca)])) _
      refine XS.aloadN X43.here hx rfl (hb hby d4_115) rfl rfl ?_
      show Steps p.tables e below (T43.setTop (mkF m 116 #[.val (.ref oa), .val (.long qe), .second, .val (.long qc), .second, .val (.int (0 : Int32))] [(.ref oa), (.int (0 : Int32)), (.ref ca)])) _
      refine st44 _ ?_
      show Steps p.tables e below (T44.setTop (mkF m 119 #[.val (.ref oa), .val (.long qe), .second, .val (.long qc), .second, .val (.int (0 : Int32))] [(.ref ca), (.int (0 : Int32)), (.ref ca)])) _
      refine XS.iload X44.here hx rfl (hb hby d4_119) rfl ?_
      show Steps p.tables e below (T44.setTop (mkF m 121 #[.val (.ref oa), .val (.long qe), .second, .val (.long qc), .second, .val (.int (0 : Int32))] [(.int (0 : Int32)), (.ref ca), (.int (0 : Int32)), (.ref ca)])) _
      refine XS.iconst X44.here hx rfl (hb hby d4_121) ?_
      show Steps p.tables e below (T44.setTop (mkF m 122 #[.val (.ref oa), .val (.long qe), .second, .val (.long qc), .second, .val (.int (0 : Int32))] [(.int (1 : Int32)), (.int (0 : Int32)), (.ref ca), (.int (0 : Int32)), (.ref ca)])) _
      refine XS.iadd X44.here hx rfl (hb hby d4_122) rfl ?_
      show Steps p.tables e below (T44.setTop (mkF m 123 #[.val (.ref oa), .val (.long qe), .second, .val (.long qc), .second, .val (.int (0 : Int32))] [(.int (1 : Int32)), (.ref ca), (.int (0 : Int32)), (.ref ca)])) _
      refine XS.aloadN X44.here hx rfl (hb hby d4_123) rfl rfl ?_
      show Steps p.tables e below (T44.setTop (mkF m 124 #[.val (.ref oa), .val (.long qe), .second, .val (.long qc), .second, .val (.int (0 : Int32))] [(.ref oa), (.int (1 : Int32)), (.ref ca), (.int (0 : Int32)), (.ref ca)])) _
      refine st46 _ ?_
      show Steps p.tables e below (T46.setTop (mkF m 127 #[.val (.ref oa), .val (.long qe), .second, .val (.long qc), .second, .val (.int (0 : Int32))] [(.int (2 : Int32)), (.int (1 : Int32)), (.ref ca), (.int (0 : Int32)), (.ref ca)])) _
      refine XS.iload X46.here hx rfl (hb hby d4_127) rfl ?_
      show Steps p.tables e below (T46.setTop (mkF m 129 #[.val (.ref oa), .val (.long qe), .second, .val (.long qc), .second, .val (.int (0 : Int32))] [(.int (0 : Int32)), (.int (2 : Int32)), (.int (1 : Int32)), (.ref ca), (.int (0 : Int32)), (.ref ca)])) _
      refine XS.isub X46.here hx rfl (hb hby d4_129) rfl ?_
      show Steps p.tables e below (T46.setTop (mkF m 130 #[.val (.ref oa), .val (.long qe), .second, .val (.long qc), .second, .val (.int (0 : Int32))] [(.int (2 : Int32)), (.int (1 : Int32)), (.ref ca), (.int (0 : Int32)), (.ref ca)])) _
      refine st48 _ ?_
      show Steps p.tables e below (T48.setTop (mkF m 133 #[.val (.ref oa), .val (.long qe), .second, .val (.long qc), .second, .val (.int (0 : Int32))] [])) _
      refine XS.aloadN X48.here hx rfl (hb hby d4_133) rfl rfl ?_
      show Steps p.tables e below (T48.setTop (mkF m 134 #[.val (.ref oa), .val (.long qe), .second, .val (.long qc), .second, .val (.int (0 : Int32))] [(.ref oa)])) _
      refine st51 _ ?_
      show Steps p.tables e below (T51.setTop (mkF m 137 #[.val (.ref oa), .val (.long qe), .second, .val (.long qc), .second, .val (.int (0 : Int32))] [(.ref ea)])) _
      refine XS.iload X51.here hx rfl (hb hby d4_137) rfl ?_
      show Steps p.tables e below (T51.setTop (mkF m 139 #[.val (.ref oa), .val (.long qe), .second, .val (.long qc), .second, .val (.int (0 : Int32))] [(.int (0 : Int32)), (.ref ea)])) _
      refine XS.lloadN X51.here hx rfl (hb hby d4_139) rfl ?_
      show Steps p.tables e below (T51.setTop (mkF m 140 #[.val (.ref oa), .val (.long qe), .second, .val (.long qc), .second, .val (.int (0 : Int32))] [(.long qe), (.int (0 : Int32)), (.ref ea)])) _
      refine st54 _ ?_
      show Steps p.tables e below (T54.setTop (mkF m 141 #[.val (.ref oa), .val (.long qe), .second, .val (.long qc), .second, .val (.int (0 : Int32))] [])) _
      refine XS.aloadN X54.here hx rfl (hb hby d4_141) rfl rfl ?_
      show Steps p.tables e below (T54.setTop (mkF m 142 #[.val (.ref oa), .val (.long qe), .second, .val (.long qc), .second, .val (.int (0 : Int32))] [(.ref oa)])) _
      refine st57 _ ?_
      show Steps p.tables e below (T57.setTop (mkF m 145 #[.val (.ref oa), .val (.long qe), .second, .val (.long qc), .second, .val (.int (0 : Int32))] [(.ref ca)])) _
      refine XS.iload X57.here hx rfl (hb hby d4_145) rfl ?_
      show Steps p.tables e below (T57.setTop (mkF m 147 #[.val (.ref oa), .val (.long qe), .second, .val (.long qc), .second, .val (.int (0 : Int32))] [(.int (0 : Int32)), (.ref ca)])) _
      refine XS.lloadN X57.here hx rfl (hb hby d4_147) rfl ?_
      show Steps p.tables e below (T57.setTop (mkF m 148 #[.val (.ref oa), .val (.long qe), .second, .val (.long qc), .second, .val (.int (0 : Int32))] [(.long qc), (.int (0 : Int32)), (.ref ca)])) _
      refine st60 _ ?_
      show Steps p.tables e below (T60.setTop (mkF m 149 #[.val (.ref oa), .val (.long qe), .second, .val (.long qc), .second, .val (.int (0 : Int32))] [])) _
      refine XS.aloadN X60.here hx rfl (hb hby d4_149) rfl rfl ?_
      show Steps p.tables e below (T60.setTop (mkF m 150 #[.val (.ref oa), .val (.long qe), .second, .val (.long qc), .second, .val (.int (0 : Int32))] [(.ref oa)])) _
      refine XS.dup X60.here hx rfl (hb hby d4_150) rfl rfl ?_
      show Steps p.tables e below (T60.setTop (mkF m 151 #[.val (.ref oa), .val (.long qe), .second, .val (.long qc), .second, .val (.int (0 : Int32))] [(.ref oa), (.ref oa)])) _
      refine st63 _ ?_
      show Steps p.tables e below (T63.setTop (mkF m 154 #[.val (.ref oa), .val (.long qe), .second, .val (.long qc), .second, .val (.int (0 : Int32))] [(.int (2 : Int32)), (.ref oa)])) _
      refine XS.iconst X63.here hx rfl (hb hby d4_154) ?_
      show Steps p.tables e below (T63.setTop (mkF m 155 #[.val (.ref oa), .val (.long qe), .second, .val (.long qc), .second, .val (.int (0 : Int32))] [(.int (1 : Int32)), (.int (2 : Int32)), (.ref oa)])) _
      refine XS.iadd X63.here hx rfl (hb hby d4_155) rfl ?_
      show Steps p.tables e below (T63.setTop (mkF m 156 #[.val (.ref oa), .val (.long qe), .second, .val (.long qc), .second, .val (.int (0 : Int32))] [(.int (3 : Int32)), (.ref oa)])) _
      refine st65 _ ?_
      show Steps p.tables e below (T65.setTop (mkF m 159 #[.val (.ref oa), .val (.long qe), .second, .val (.long qc), .second, .val (.int (0 : Int32))] [])) _
      exact X65.returnOut hx Bd.returns (hb hby d4_159) hr
    · show Q_add2 Z oa qe qc ea ca kE kC x0 x1 c0 c1 h0 n0 _ T65.heap _
      rw [e65]
      have f67 := ((((((Keep.refl h0 [oa, ea, ca]).trans K40 (allS (P := fun x => x ∈ [oa, ea, ca] ∨ h0.size ≤ x) (Or.inl (List.mem_of_getElem? (i := 1) rfl)) all0)).trans K48 (allS (P := fun x => x ∈ [oa, ea, ca] ∨ h0.size ≤ x) (Or.inl (List.mem_of_getElem? (i := 2) rfl)) all0)).wr W54 (Or.inl (List.mem_of_getElem? (i := 1) rfl))).wr W60 (Or.inl (List.mem_of_getElem? (i := 2) rfl))).wr W65 (Or.inl (List.mem_of_getElem? (i := 0) rfl)))
      have f68 := (f64.wr W65)
      have f69 := (((f50.other W54 (Or.inl nae)).other W60 (Or.inl nac)).other W65 (Or.inr (slot_ne (Or.inl (hw _ (List.mem_of_getElem? (i := 11) rfl))) (Or.inl (hw _ (List.mem_of_getElem? (i := 20) rfl))) (by decide) (t := (.array .long)) (t' := .int) (by decide) (by decide))))
      have f70 := ((f56.other W60 (Or.inl nac)).other W65 (Or.inr (slot_ne (Or.inl (hw _ (List.mem_of_getElem? (i := 13) rfl))) (Or.inl (hw _ (List.mem_of_getElem? (i := 20) rfl))) (by decide) (t := (.array .long)) (t' := .int) (by decide) (by decide))))
      have f71 := ((V54.other W60 nec).other W65 (Ne.symm nae))
      have f72 := (V60.other W65 (Ne.symm nac))
      exact ⟨rfl, N65, f67, f68, f69, f70, Or.inr ⟨qe, x0, x1, qc, c0, c1, Fw65, f71, f72, by omega, by omega, by omega, by omega, by omega, by omega, fun s => by omega⟩⟩
  · have pre73 : ∀ t, Steps p.tables e below (T3.setTop (mkF m 13 #[.val (.ref oa), .val (.long qe), .second, .val (.long qc), .second, .unset] [(.int (-2 : Int32))])) t → Steps p.tables e below (s₁.setTop (entryFrame m #[(.ref oa), (.long qe), (.long qc)] 6)) t := pre4
    have hc17_74 : (-2 : Int) < (0 : Int) := by decide
    obtain ⟨T75, X75, e75, st75⟩ := getF X3 hx hZ hown (host := "") (Or.inl (hw _ (List.mem_of_getElem? (i := 19) rfl))) Via.refl e3 F2 (g := (mkF m 40 #[.val (.ref oa), .val (.long qe), .second, .val (.long qc), .second, .val (.int (1 : Int32))] [(.ref oa)])) rfl rfl (hb hby d4_40)
    obtain ⟨T76, X76, e76, st76⟩ := getF X75 hx hZ hown (host := "") (Or.inl (hw _ (List.mem_of_getElem? (i := 10) rfl))) Via.refl e75 F0 (g := (mkF m 44 #[.val (.ref oa), .val (.long qe), .second, .val (.long qc), .second, .val (.int (1 : Int32))] [(.ref oa), (.int (2 : Int32))])) rfl rfl (hb hby d4_44)
    obtain ⟨cl77, Ar77, q77, S77, M77, H77, G77⟩ := id V0
    have hc48_78 : ¬ ((2 : Int) = (16 : Int)) := by decide
    obtain ⟨T79, X79, e79, st79⟩ := getF X76 hx hZ hown (host := "") (Or.inl (hw _ (List.mem_of_getElem? (i := 10) rfl))) Via.refl e76 F0 (g := (mkF m 86 #[.val (.ref oa), .val (.long qe), .second, .val (.long qc), .second, .val (.int (1 : Int32))] [(.ref oa)])) rfl rfl (hb hby d4_86)
    obtain ⟨T80, X80, e80, st80⟩ := getF X79 hx hZ hown (host := "") (Or.inl (hw _ (List.mem_of_getElem? (i := 10) rfl))) Via.refl e79 F0 (g := (mkF m 92 #[.val (.ref oa), .val (.long qe), .second, .val (.long qc), .second, .val (.int (1 : Int32))] [(.ref oa), (.int (1 : Int32)), (.ref ea)])) rfl rfl (hb hby d4_92)
    obtain ⟨T81, X81, e81, st81⟩ := getF X80 hx hZ hown (host := "") (Or.inl (hw _ (List.mem_of_getElem? (i := 19) rfl))) Via.refl e80 F2 (g := (mkF m 100 #[.val (.ref oa), .val (.long qe), .second, .val (.long qc), .second, .val (.int (1 : Int32))] [(.ref oa), (.int (2 : Int32)), (.ref ea), (.int (1 : Int32)), (.ref ea)])) rfl rfl (hb hby d4_100)
    obtain ⟨T82, h82, L82, X82, e82, N82, K82, V82, st82⟩ := cpA X81 hx hZ hown (hw _ (List.mem_of_getElem? (i := 36) rfl)) (hw _ (List.mem_of_getElem? (i := 39) rfl)) (hw _ (List.mem_of_getElem? (i := 37) rfl)) (hw _ (List.mem_of_getElem? (i := 38) rfl)) e81 V0 V0 (Or.inl ⟨rfl, rfl⟩) (by decide : ¬ (1 : Int32) < 0) (by decide : ¬ (2 : Int32) < 0) (by decide : ¬ (1 : Int32) < 0) (by decide) (by decide) (us := [(.long x1)]) rfl (Nat.le_of_ble_eq_true rfl) N3 ge (g := (mkF m 106 #[.val (.ref oa), .val (.long qe), .second, .val (.long qc), .second, .val (.int (1 : Int32))] [(.int (1 : Int32)), (.int (2 : Int32)), (.ref ea), (.int (1 : Int32)), (.ref ea)])) rfl (by rw [hml]; rfl) (rest := []) rfl (hb hby d4_106) (by decide) (W := 0) (by show 2 * 0 + _ ≤ _; exact Nat.le_of_eq rfl) (by decide)
    have Zs83 : n0 ≤ h82.size := Nat.le_trans Z0 K82.1
    have Vc82 : Arv Z h82 ea kE .long (16 : Int32) [(.long x0), (.long x1), (.long x1), (.long (0 : Int64))] (.long (0 : Int64)) := V82
    have f84 := (F1.keep K82 (ninS nae nin0))
    obtain ⟨T85, X85, e85, st85⟩ := getF X82 hx hZ hown (host := "") (Or.inl (hw _ (List.mem_of_getElem? (i := 12) rfl))) Via.refl e82 f84 (g := (mkF m 110 #[.val (.ref oa), .val (.long qe), .second, .val (.long qc), .second, .val (.int (1 : Int32))] [(.ref oa)])) rfl rfl (hb hby d4_110)
    obtain ⟨T86, X86, e86, st86⟩ := getF X85 hx hZ hown (host := "") (Or.inl (hw _ (List.mem_of_getElem? (i := 12) rfl))) Via.refl e85 f84 (g := (mkF m 116 #[.val (.ref oa), .val (.long qe), .second, .val (.long qc), .second, .val (.int (1 : Int32))] [(.ref oa), (.int (1 : Int32)), (.ref ca)])) rfl rfl (hb hby d4_116)
    have f87 := (F2.keep K82 (ninS nae nin0))
    obtain ⟨T88, X88, e88, st88⟩ := getF X86 hx hZ hown (host := "") (Or.inl (hw _ (List.mem_of_getElem? (i := 19) rfl))) Via.refl e86 f87 (g := (mkF m 124 #[.val (.ref oa), .val (.long qe), .second, .val (.long qc), .second, .val (.int (1 : Int32))] [(.ref oa), (.int (2 : Int32)), (.ref ca), (.int (1 : Int32)), (.ref ca)])) rfl rfl (hb hby d4_124)
    have f89 := (V1.keep K82 (ninS (Ne.symm nec) nin0))
    obtain ⟨T90, h90, L90, X90, e90, N90, K90, V90, st90⟩ := cpA X88 hx hZ hown (hw _ (List.mem_of_getElem? (i := 36) rfl)) (hw _ (List.mem_of_getElem? (i := 39) rfl)) (hw _ (List.mem_of_getElem? (i := 37) rfl)) (hw _ (List.mem_of_getElem? (i := 38) rfl)) e88 f89 f89 (Or.inl ⟨rfl, rfl⟩) (by decide : ¬ (1 : Int32) < 0) (by decide : ¬ (2 : Int32) < 0) (by decide : ¬ (1 : Int32) < 0) (by decide) (by decide) (us := [(.long c1)]) rfl (Nat.le_of_ble_eq_true rfl) N82 gc (g := (mkF m 130 #[.val (.ref oa), .val (.long qe), .second, .val (.long qc), .second, .val (.int (1 : Int32))] [(.int (1 : Int32)), (.int (2 : Int32)), (.ref ca), (.int (1 : Int32)), (.ref ca)])) rfl (by rw [hml]; rfl) (rest := []) rfl (hb hby d4_130) (by decide) (W := 0) (by show 2 * 0 + _ ≤ _; exact Nat.le_of_eq rfl) (by decide)
    have Zs91 : n0 ≤ h90.size := Nat.le_trans Zs83 K90.1
    have Vc90 : Arv Z h90 ca kC .long (16 : Int32) [(.long c0), (.long c1), (.long c1), (.long (0 : Int64))] (.long (0 : Int64)) := V90
    have f92 := ((F0.keep K82 (ninS nae nin0)).keep K90 (ninS nac nin0))
    obtain ⟨T93, X93, e93, st93⟩ := getF X90 hx hZ hown (host := "") (Or.inl (hw _ (List.mem_of_getElem? (i := 10) rfl))) Via.refl e90 f92 (g := (mkF m 134 #[.val (.ref oa), .val (.long qe), .second, .val (.long qc), .second, .val (.int (1 : Int32))] [(.ref oa)])) rfl rfl (hb hby d4_134)
    have f94 := (Vc82.keep K90 (ninS nec nin0))
    obtain ⟨cl95, Ar95, q95, S95, M95, H95, G95⟩ := id f94
    have hin95 : ¬ ((1 : Int32) < 0 ∨ cl95.slots.size ≤ ((1 : Int32)).toNatClampNeg) := inb_of S95 ⟨by decide, by decide⟩
    obtain ⟨T96, h96, X96, e96, W96, st96⟩ := stJ X93 hx hZ e93 Ar95 (j := (1 : Int32)) hin95 (g := (mkF m 140 #[.val (.ref oa), .val (.long qe), .second, .val (.long qc), .second, .val (.int (1 : Int32))] [(.long qe), (.int (1 : Int32)), (.ref ea)])) rfl rfl (hb hby d4_140)
    have N96 := Fr.snoc X96 N90 ge
    have Zs97 : n0 ≤ h96.size := by rw [W96.size]; exact Zs91
    have V96 : Arv Z h96 ea kE .long (16 : Int32) [(.long x0), (.long qe), (.long x1), (.long (0 : Int64))] (.long (0 : Int64)) := Arv.set Ar95 q95 S95 M95 H95 G95 rfl W96 1 rfl (Nat.le_of_ble_eq_true rfl)
    have f98 := ((f84.keep K90 (ninS nac nin0)).other W96 (Or.inl nae))
    obtain ⟨T99, X99, e99, st99⟩ := getF X96 hx hZ hown (host := "") (Or.inl (hw _ (List.mem_of_getElem? (i := 12) rfl))) Via.refl e96 f98 (g := (mkF m 142 #[.val (.ref oa), .val (.long qe), .second, .val (.long qc), .second, .val (.int (1 : Int32))] [(.ref oa)])) rfl rfl (hb hby d4_142)
    have f100 := (Vc90.other W96 (Ne.symm nec))
    obtain ⟨cl101, Ar101, q101, S101, M101, H101, G101⟩ := id f100
    have hin101 : ¬ ((1 : Int32) < 0 ∨ cl101.slots.size ≤ ((1 : Int32)).toNatClampNeg) := inb_of S101 ⟨by decide, by decide⟩
    obtain ⟨T102, h102, X102, e102, W102, st102⟩ := stJ X99 hx hZ e99 Ar101 (j := (1 : Int32)) hin101 (g := (mkF m 148 #[.val (.ref oa), .val (.long qe), .second, .val (.long qc), .second, .val (.int (1 : Int32))] [(.long qc), (.int (1 : Int32)), (.ref ca)])) rfl rfl (hb hby d4_148)
    have N102 := Fr.snoc X102 N96 gc
    have Zs103 : n0 ≤ h102.size := by rw [W102.size]; exact Zs97
    have V102 : Arv Z h102 ca kC .long (16 : Int32) [(.long c0), (.long qc), (.long c1), (.long (0 : Int64))] (.long (0 : Int64)) := Arv.set Ar101 q101 S101 M101 H101 G101 rfl W102 1 rfl (Nat.le_of_ble_eq_true rfl)
    have f104 := (((f87.keep K90 (ninS nac nin0)).other W96 (Or.inl nae)).other W102 (Or.inl nac))
    obtain ⟨T105, X105, e105, st105⟩ := getF X102 hx hZ hown (host := "") (Or.inl (hw _ (List.mem_of_getElem? (i := 19) rfl))) Via.refl e102 f104 (g := (mkF m 151 #[.val (.ref oa), .val (.long qe), .second, .val (.long qc), .second, .val (.int (1 : Int32))] [(.ref oa), (.ref oa)])) rfl rfl (hb hby d4_151)
    have f106 := ((((Ea.keep K82).keep K90).wr W96).wr W102)
    obtain ⟨T107, h107, X107, e107, W107, st107⟩ := putF X105 hx hZ hown (host := "") (Or.inl (hw _ (List.mem_of_getElem? (i := 19) rfl))) Via.refl e105 f104 f106 (Or.inl (hw _ (List.mem_of_getElem? (i := 20) rfl))) (hw _ (List.mem_of_getElem? (i := 1) rfl)) (ty := .int) (by decide) rfl rfl (g := (mkF m 156 #[.val (.ref oa), .val (.long qe), .second, .val (.long qc), .second, .val (.int (1 : Int32))] [(.int (3 : Int32)), (.ref oa)])) rfl rfl (hb hby d4_156)
    have N107 := Fr.snoc X107 N102 ga
    have Zs108 : n0 ≤ h107.size := by rw [W107.size]; exact Zs103
    have Fw107 := f104.same W107
    obtain ⟨fs, hr, hrun, hended, hW, hsame⟩ := X107.leave (v := none) (fun _ => rfl)
    refine ⟨_, _, pre73 _ ?_, hrun, hended, _, _, rfl, ?_, ⟨_, rfl⟩, hW, hsame.mono (by decide) (by decide)⟩
    · show Steps p.tables e below (T3.setTop (mkF m 13 #[.val (.ref oa), .val (.long qe), .second, .val (.long qc), .second, .unset] [(.int (-2 : Int32))])) _
      refine XS.istore X3.here hx rfl (hb hby d4_13) rfl (l' := #[.val (.ref oa), .val (.long qe), .second, .val (.long qc), .second, .val (.int (-2 : Int32))]) rfl ?_
      show Steps p.tables e below (T3.setTop (mkF m 15 #[.val (.ref oa), .val (.long qe), .second, .val (.long qc), .second, .val (.int (-2 : Int32))] [])) _
      refine XS.iload X3.here hx rfl (hb hby d4_15) rfl ?_
      show Steps p.tables e below (T3.setTop (mkF m 17 #[.val (.ref oa), .val (.long qe), .second, .val (.long qc), .second, .val (.int (-2 : Int32))] [(.int (-2 : Int32))])) _
      refine XS.ifYes X3.here hx rfl (pc0 := 17) (pc' := 32) rfl (hb hby d4_17) rfl (own_if (own_tlt (a := (-2 : Int32)) (b := (0 : Int32)) (by decide) (by decide) hc17_74).1) (by decide) (by decide) ?_
      show Steps p.tables e below (T3.setTop (mkF m 32 #[.val (.ref oa), .val (.long qe), .second, .val (.long qc), .second, .val (.int (-2 : Int32))] [])) _
      refine XS.iload X3.here hx rfl (hb hby d4_32) rfl ?_
      show Steps p.tables e below (T3.setTop (mkF m 34 #[.val (.ref oa), .val (.long qe), .second, .val (.long qc), .second, .val (.int (-2 : Int32))] [(.int (-2 : Int32))])) _
      refine XS.ineg X3.here hx rfl (hb hby d4_34) rfl ?_
      show Steps p.tables e below (T3.setTop (mkF m 35 #[.val (.ref oa), .val (.long qe), .second, .val (.long qc), .second, .val (.int (-2 : Int32))] [(.int (2 : Int32))])) _
      refine XS.iconst X3.here hx rfl (hb hby d4_35) ?_
      show Steps p.tables e below (T3.setTop (mkF m 36 #[.val (.ref oa), .val (.long qe), .second, .val (.long qc), .second, .val (.int (-2 : Int32))] [(.int (1 : Int32)), (.int (2 : Int32))])) _
      refine XS.isub X3.here hx rfl (hb hby d4_36) rfl ?_
      show Steps p.tables e below (T3.setTop (mkF m 37 #[.val (.ref oa), .val (.long qe), .second, .val (.long qc), .second, .val (.int (-2 : Int32))] [(.int (1 : Int32))])) _
      refine XS.istore X3.here hx rfl (hb hby d4_37) rfl (l' := #[.val (.ref oa), .val (.long qe), .second, .val (.long qc), .second, .val (.int (1 : Int32))]) rfl ?_
      show Steps p.tables e below (T3.setTop (mkF m 39 #[.val (.ref oa), .val (.long qe), .second, .val (.long qc), .second, .val (.int (1 : Int32))] [])) _
      refine XS.aloadN X3.here hx rfl (hb hby d4_39) rfl rfl ?_
      show Steps p.tables e below (T3.setTop (mkF m 40 #[.val (.ref oa), .val (.long qe), .second, .val (.long qc), .second, .val (.int (1 : Int32))] [(.ref oa)])) _
      refine st75 _ ?_
      show Steps p.tables e below (T75.setTop (mkF m 43 #[.val (.ref oa), .val (.long qe), .second, .val (.long qc), .second, .val (.int (1 : Int32))] [(.int (2 : Int32))])) _
      refine XS.aloadN X75.here hx rfl (hb hby d4_43) rfl rfl ?_
      show Steps p.tables e below (T75.setTop (mkF m 44 #[.val (.ref oa), .val (.long qe), .second, .val (.long qc), .second, .val (.int (1 : Int32))] [(.ref oa), (.int (2 : Int32))])) _
      refine st76 _ ?_
      show Steps p.tables e below (T76.setTop (mkF m 47 #[.val (.ref oa), .val (.long qe), .second, .val (.long qc), .second, .val (.int (1 : Int32))] [(.ref ea), (.int (2 : Int32))])) _
      refine X76.arraylength hx (by rw [e76]; exact Ar77.1) (State.isArrayOf_alike hZ.alike Ar77.2.1) (g := (mkF m 47 #[.val (.ref oa), .val (.long qe), .second, .val (.long qc), .second, .val (.int (1 : Int32))] [(.ref ea), (.int (2 : Int32))])) rfl rfl (hb hby d4_47) _ ?_
      rw [len_of S77 M77]
      show Steps p.tables e below (T76.setTop (mkF m 48 #[.val (.ref oa), .val (.long qe), .second, .val (.long qc), .second, .val (.int (1 : Int32))] [(.int (16 : Int32)), (.int (2 : Int32))])) _
      refine XS.icmpYes X76.here hx rfl (pc0 := 48) (pc' := 85) rfl (hb hby d4_48) rfl (own_feq (a := (2 : Int32)) (b := (16 : Int32)) (by decide) (by decide) hc48_78).2 (by decide) (by decide) ?_
      show Steps p.tables e below (T76.setTop (mkF m 85 #[.val (.ref oa), .val (.long qe), .second, .val (.long qc), .second, .val (.int (1 : Int32))] [])) _
      refine XS.aloadN X76.here hx rfl (hb hby d4_85) rfl rfl ?_
      show Steps p.tables e below (T76.setTop (mkF m 86 #[.val (.ref oa), .val (.long qe), .second, .val (.long qc), .second, .val (.int (1 : Int32))] [(.ref oa)])) _
      refine st79 _ ?_
      show Steps p.tables e below (T79.setTop (mkF m 89 #[.val (.ref oa), .val (.long qe), .second, .val (.long qc), .second, .val (.int (1 : Int32))] [(.ref ea)])) _
      refine XS.iload X79.here hx rfl (hb hby d4_89) rfl ?_
      show Steps p.tables e below (T79.setTop (mkF m 91 #[.val (.ref oa), .val (.long qe), .second, .val (.long qc), .second, .val (.int (1 : Int32))] [(.int (1 : Int32)), (.ref ea)])) _
      refine XS.aloadN X79.here hx rfl (hb hby d4_91) rfl rfl ?_
      show Steps p.tables e below (T79.setTop (mkF m 92 #[.val (.ref oa), .val (.long qe), .second, .val (.long qc), .second, .val (.int (1 : Int32))] [(.ref oa), (.int (1 : Int32)), (.ref ea)])) _
      refine st80 _ ?_
      show Steps p.tables e below (T80.setTop (mkF m 95 #[.val (.ref oa), .val (.long qe), .second, .val (.long qc), .second, .val (.int (1 : Int32))] [(.ref ea), (.int (1 : Int32)), (.ref ea)])) _
      refine XS.iload X80.here hx rfl (hb hby d4_95) rfl ?_
      show Steps p.tables e below (T80.setTop (mkF m 97 #[.val (.ref oa), .val (.long qe), .second, .val (.long qc), .second, .val (.int (1 : Int32))] [(.int (1 : Int32)), (.ref ea), (.int (1 : Int32)), (.ref ea)])) _
      refine XS.iconst X80.here hx rfl (hb hby d4_97) ?_
      show Steps p.tables e below (T80.setTop (mkF m 98 #[.val (.ref oa), .val (.long qe), .second, .val (.long qc), .second, .val (.int (1 : Int32))] [(.int (1 : Int32)), (.int (1 : Int32)), (.ref ea), (.int (1 : Int32)), (.ref ea)])) _
      refine XS.iadd X80.here hx rfl (hb hby d4_98) rfl ?_
      show Steps p.tables e below (T80.setTop (mkF m 99 #[.val (.ref oa), .val (.long qe), .second, .val (.long qc), .second, .val (.int (1 : Int32))] [(.int (2 : Int32)), (.ref ea), (.int (1 : Int32)), (.ref ea)])) _
      refine XS.aloadN X80.here hx rfl (hb hby d4_99) rfl rfl ?_
      show Steps p.tables e below (T80.setTop (mkF m 100 #[.val (.ref oa), .val (.long qe), .second, .val (.long qc), .second, .val (.int (1 : Int32))] [(.ref oa), (.int (2 : Int32)), (.ref ea), (.int (1 : Int32)), (.ref ea)])) _
      refine st81 _ ?_
      show Steps p.tables e below (T81.setTop (mkF m 103 #[.val (.ref oa), .val (.long qe), .second, .val (.long qc), .second, .val (.int (1 : Int32))] [(.int (2 : Int32)), (.int (2 : Int32)), (.ref ea), (.int (1 : Int32)), (.ref ea)])) _
      refine XS.iload X81.here hx rfl (hb hby d4_103) rfl ?_
      show Steps p.tables e below (T81.setTop (mkF m 105 #[.val (.ref oa), .val (.long qe), .second, .val (.long qc), .second, .val (.int (1 : Int32))] [(.int (1 : Int32)), (.int (2 : Int32)), (.int (2 : Int32)), (.ref ea), (.int (1 : Int32)), (.ref ea)])) _
      refine XS.isub X81.here hx rfl (hb hby d4_105) rfl ?_
      show Steps p.tables e below (T81.setTop (mkF m 106 #[.val (.ref oa), .val (.long qe), .second, .val (.long qc), .second, .val (.int (1 : Int32))] [(.int (1 : Int32)), (.int (2 : Int32)), (.ref ea), (.int (1 : Int32)), (.ref ea)])) _
      refine st82 _ ?_
      show Steps p.tables e below (T82.setTop (mkF m 109 #[.val (.ref oa), .val (.long qe), .second, .val (.long qc), .second, .val (.int (1 : Int32))] [])) _
      refine XS.aloadN X82.here hx rfl (hb hby d4_109) rfl rfl ?_
      show Steps p.tables e below (T82.setTop (mkF m 110 #[.val (.ref oa), .val (.long qe), .second, .val (.long qc), .second, .val (.int (1 : Int32))] [(.ref oa)])) _
      refine st85 _ ?_
      show Steps p.tables e below (T85.setTop (mkF m 113 #[.val (.ref oa), .val (.long qe), .second, .val (.long qc), .second, .val (.int (1 : Int32))] [(.ref ca)])) _
      refine XS.iload X85.here hx rfl (hb hby d4_113) rfl ?_
      show Steps p.tables e below (T85.setTop (mkF m 115 #[.val (.ref oa), .val (.long qe), .second, .val (.long qc), .second, .val (.int (1 : Int32))] [(.int (1 : Int32)), (.ref ca)])) _
      refine XS.aloadN X85.here hx rfl (hb hby d4_115) rfl rfl ?_
      show Steps p.tables e below (T85.setTop (mkF m 116 #[.val (.ref oa), .val (.long qe), .second, .val (.long qc), .second, .val (.int (1 : Int32))] [(.ref oa), (.int (1 : Int32)), (.ref ca)])) _
      refine st86 _ ?_
      show Steps p.tables e below (T86.setTop (mkF m 119 #[.val (.ref oa), .val (.long qe), .second, .val (.long qc), .second, .val (.int (1 : Int32))] [(.ref ca), (.int (1 : Int32)), (.ref ca)])) _
      refine XS.iload X86.here hx rfl (hb hby d4_119) rfl ?_
      show Steps p.tables e below (T86.setTop (mkF m 121 #[.val (.ref oa), .val (.long qe), .second, .val (.long qc), .second, .val (.int (1 : Int32))] [(.int (1 : Int32)), (.ref ca), (.int (1 : Int32)), (.ref ca)])) _
      refine XS.iconst X86.here hx rfl (hb hby d4_121) ?_
      show Steps p.tables e below (T86.setTop (mkF m 122 #[.val (.ref oa), .val (.long qe), .second, .val (.long qc), .second, .val (.int (1 : Int32))] [(.int (1 : Int32)), (.int (1 : Int32)), (.ref ca), (.int (1 : Int32)), (.ref ca)])) _
      refine XS.iadd X86.here hx rfl (hb hby d4_122) rfl ?_
      show Steps p.tables e below (T86.setTop (mkF m 123 #[.val (.ref oa), .val (.long qe), .second, .val (.long qc), .second, .val (.int (1 : Int32))] [(.int (2 : Int32)), (.ref ca), (.int (1 : Int32)), (.ref ca)])) _
      refine XS.aloadN X86.here hx rfl (hb hby d4_123) rfl rfl ?_
      show Steps p.tables e below (T86.setTop (mkF m 124 #[.val (.ref oa), .val (.long qe), .second, .val (.long qc), .second, .val (.int (1 : Int32))] [(.ref oa), (.int (2 : Int32)), (.ref ca), (.int (1 : Int32)), (.ref ca)])) _
      refine st88 _ ?_
      show Steps p.tables e below (T88.setTop (mkF m 127 #[.val (.ref oa), .val (.long qe), .second, .val (.long qc), .second, .val (.int (1 : Int32))] [(.int (2 : Int32)), (.int (2 : Int32)), (.ref ca), (.int (1 : Int32)), (.ref ca)])) _
      refine XS.iload X88.here hx rfl (hb hby d4_127) rfl ?_
      show Steps p.tables e below (T88.setTop (mkF m 129 #[.val (.ref oa), .val (.long qe), .second, .val (.long qc), .second, .val (.int (1 : Int32))] [(.int (1 : Int32)), (.int (2 : Int32)), (.int (2 : Int32)), (.ref ca), (.int (1 : Int32)), (.ref ca)])) _
      refine XS.isub X88.here hx rfl (hb hby d4_129) rfl ?_
      show Steps p.tables e below (T88.setTop (mkF m 130 #[.val (.ref oa), .val (.long qe), .second, .val (.long qc), .second, .val (.int (1 : Int32))] [(.int (1 : Int32)), (.int (2 : Int32)), (.ref ca), (.int (1 : Int32)), (.ref ca)])) _
      refine st90 _ ?_
      show Steps p.tables e below (T90.setTop (mkF m 133 #[.val (.ref oa), .val (.long qe), .second, .val (.long qc), .second, .val (.int (1 : Int32))] [])) _
      refine XS.aloadN X90.here hx rfl (hb hby d4_133) rfl rfl ?_
      show Steps p.tables e below (T90.setTop (mkF m 134 #[.val (.ref oa), .val (.long qe), .second, .val (.long qc), .second, .val (.int (1 : Int32))] [(.ref oa)])) _
      refine st93 _ ?_
      show Steps p.tables e below (T93.setTop (mkF m 137 #[.val (.ref oa), .val (.long qe), .second, .val (.long qc), .second, .val (.int (1 : Int32))] [(.ref ea)])) _
      refine XS.iload X93.here hx rfl (hb hby d4_137) rfl ?_
      show Steps p.tables e below (T93.setTop (mkF m 139 #[.val (.ref oa), .val (.long qe), .second, .val (.long qc), .second, .val (.int (1 : Int32))] [(.int (1 : Int32)), (.ref ea)])) _
      refine XS.lloadN X93.here hx rfl (hb hby d4_139) rfl ?_
      show Steps p.tables e below (T93.setTop (mkF m 140 #[.val (.ref oa), .val (.long qe), .second, .val (.long qc), .second, .val (.int (1 : Int32))] [(.long qe), (.int (1 : Int32)), (.ref ea)])) _
      refine st96 _ ?_
      show Steps p.tables e below (T96.setTop (mkF m 141 #[.val (.ref oa), .val (.long qe), .second, .val (.long qc), .second, .val (.int (1 : Int32))] [])) _
      refine XS.aloadN X96.here hx rfl (hb hby d4_141) rfl rfl ?_
      show Steps p.tables e below (T96.setTop (mkF m 142 #[.val (.ref oa), .val (.long qe), .second, .val (.long qc), .second, .val (.int (1 : Int32))] [(.ref oa)])) _
      refine st99 _ ?_
      show Steps p.tables e below (T99.setTop (mkF m 145 #[.val (.ref oa), .val (.long qe), .second, .val (.long qc), .second, .val (.int (1 : Int32))] [(.ref ca)])) _
      refine XS.iload X99.here hx rfl (hb hby d4_145) rfl ?_
      show Steps p.tables e below (T99.setTop (mkF m 147 #[.val (.ref oa), .val (.long qe), .second, .val (.long qc), .second, .val (.int (1 : Int32))] [(.int (1 : Int32)), (.ref ca)])) _
      refine XS.lloadN X99.here hx rfl (hb hby d4_147) rfl ?_
      show Steps p.tables e below (T99.setTop (mkF m 148 #[.val (.ref oa), .val (.long qe), .second, .val (.long qc), .second, .val (.int (1 : Int32))] [(.long qc), (.int (1 : Int32)), (.ref ca)])) _
      refine st102 _ ?_
      show Steps p.tables e below (T102.setTop (mkF m 149 #[.val (.ref oa), .val (.long qe), .second, .val (.long qc), .second, .val (.int (1 : Int32))] [])) _
      refine XS.aloadN X102.here hx rfl (hb hby d4_149) rfl rfl ?_
      show Steps p.tables e below (T102.setTop (mkF m 150 #[.val (.ref oa), .val (.long qe), .second, .val (.long qc), .second, .val (.int (1 : Int32))] [(.ref oa)])) _
      refine XS.dup X102.here hx rfl (hb hby d4_150) rfl rfl ?_
      show Steps p.tables e below (T102.setTop (mkF m 151 #[.val (.ref oa), .val (.long qe), .second, .val (.long qc), .second, .val (.int (1 : Int32))] [(.ref oa), (.ref oa)])) _
      refine st105 _ ?_
      show Steps p.tables e below (T105.setTop (mkF m 154 #[.val (.ref oa), .val (.long qe), .second, .val (.long qc), .second, .val (.int (1 : Int32))] [(.int (2 : Int32)), (.ref oa)])) _
      refine XS.iconst X105.here hx rfl (hb hby d4_154) ?_
      show Steps p.tables e below (T105.setTop (mkF m 155 #[.val (.ref oa), .val (.long qe), .second, .val (.long qc), .second, .val (.int (1 : Int32))] [(.int (1 : Int32)), (.int (2 : Int32)), (.ref oa)])) _
      refine XS.iadd X105.here hx rfl (hb hby d4_155) rfl ?_
      show Steps p.tables e below (T105.setTop (mkF m 156 #[.val (.ref oa), .val (.long qe), .second, .val (.long qc), .second, .val (.int (1 : Int32))] [(.int (3 : Int32)), (.ref oa)])) _
      refine st107 _ ?_
      show Steps p.tables e below (T107.setTop (mkF m 159 #[.val (.ref oa), .val (.long qe), .second, .val (.long qc), .second, .val (.int (1 : Int32))] [])) _
      exact X107.returnOut hx Bd.returns (hb hby d4_159) hr
    · show Q_add2 Z oa qe qc ea ca kE kC x0 x1 c0 c1 h0 n0 _ T107.heap _
      rw [e107]
      have f109 := ((((((Keep.refl h0 [oa, ea, ca]).trans K82 (allS (P := fun x => x ∈ [oa, ea, ca] ∨ h0.size ≤ x) (Or.inl (List.mem_of_getElem? (i := 1) rfl)) all0)).trans K90 (allS (P := fun x => x ∈ [oa, ea, ca] ∨ h0.size ≤ x) (Or.inl (List.mem_of_getElem? (i := 2) rfl)) all0)).wr W96 (Or.inl (List.mem_of_getElem? (i := 1) rfl))).wr W102 (Or.inl (List.mem_of_getElem? (i := 2) rfl))).wr W107 (Or.inl (List.mem_of_getElem? (i := 0) rfl)))
      have f110 := (f106.wr W107)
      have f111 := (((f92.other W96 (Or.inl nae)).other W102 (Or.inl nac)).other W107 (Or.inr (slot_ne (Or.inl (hw _ (List.mem_of_getElem? (i := 11) rfl))) (Or.inl (hw _ (List.mem_of_getElem? (i := 20) rfl))) (by decide) (t := (.array .long)) (t' := .int) (by decide) (by decide))))
      have f112 := ((f98.other W102 (Or.inl nac)).other W107 (Or.inr (slot_ne (Or.inl (hw _ (List.mem_of_getElem? (i := 13) rfl))) (Or.inl (hw _ (List.mem_of_getElem? (i := 20) rfl))) (by decide) (t := (.array .long)) (t' := .int) (by decide) (by decide))))
      have f113 := ((V96.other W102 nec).other W107 (Ne.symm nae))
      have f114 := (V102.other W107 (Ne.symm nac))
      exact ⟨rfl, N107, f109, f110, f111, f112, Or.inr ⟨x0, qe, x1, c0, qc, c1, Fw107, f113, f114, by omega, by omega, by omega, by omega, by omega, by omega, fun s => by omega⟩⟩
  · have pre115 : ∀ t, Steps p.tables e below (T3.setTop (mkF m 13 #[.val (.ref oa), .val (.long qe), .second, .val (.long qc), .second, .unset] [(.int (-3 : Int32))])) t → Steps p.tables e below (s₁.setTop (entryFrame m #[(.ref oa), (.long qe), (.long qc)] 6)) t := pre4
    have hc17_116 : (-3 : Int) < (0 : Int) := by decide
    obtain ⟨T117, X117, e117, st117⟩ := getF X3 hx hZ hown (host := "") (Or.inl (hw _ (List.mem_of_getElem? (i := 19) rfl))) Via.refl e3 F2 (g := (mkF m 40 #[.val (.ref oa), .val (.long qe), .second, .val (.long qc), .second, .val (.int (2 : Int32))] [(.ref oa)])) rfl rfl (hb hby d4_40)
    obtain ⟨T118, X118, e118, st118⟩ := getF X117 hx hZ hown (host := "") (Or.inl (hw _ (List.mem_of_getElem? (i := 10) rfl))) Via.refl e117 F0 (g := (mkF m 44 #[.val (.ref oa), .val (.long qe), .second, .val (.long qc), .second, .val (.int (2 : Int32))] [(.ref oa), (.int (2 : Int32))])) rfl rfl (hb hby d4_44)
    obtain ⟨cl119, Ar119, q119, S119, M119, H119, G119⟩ := id V0
    have hc48_120 : ¬ ((2 : Int) = (16 : Int)) := by decide
    obtain ⟨T121, X121, e121, st121⟩ := getF X118 hx hZ hown (host := "") (Or.inl (hw _ (List.mem_of_getElem? (i := 10) rfl))) Via.refl e118 F0 (g := (mkF m 86 #[.val (.ref oa), .val (.long qe), .second, .val (.long qc), .second, .val (.int (2 : Int32))] [(.ref oa)])) rfl rfl (hb hby d4_86)
    obtain ⟨T122, X122, e122, st122⟩ := getF X121 hx hZ hown (host := "") (Or.inl (hw _ (List.mem_of_getElem? (i := 10) rfl))) Via.refl e121 F0 (g := (mkF m 92 #[.val (.ref oa), .val (.long qe), .second, .val (.long qc), .second, .val (.int (2 : Int32))] [(.ref oa), (.int (2 : Int32)), (.ref ea)])) rfl rfl (hb hby d4_92)
    obtain ⟨T123, X123, e123, st123⟩ := getF X122 hx hZ hown (host := "") (Or.inl (hw _ (List.mem_of_getElem? (i := 19) rfl))) Via.refl e122 F2 (g := (mkF m 100 #[.val (.ref oa), .val (.long qe), .second, .val (.long qc), .second, .val (.int (2 : Int32))] [(.ref oa), (.int (3 : Int32)), (.ref ea), (.int (2 : Int32)), (.ref ea)])) rfl rfl (hb hby d4_100)
    obtain ⟨T124, h124, L124, X124, e124, N124, K124, V124, st124⟩ := cpA X123 hx hZ hown (hw _ (List.mem_of_getElem? (i := 36) rfl)) (hw _ (List.mem_of_getElem? (i := 39) rfl)) (hw _ (List.mem_of_getElem? (i := 37) rfl)) (hw _ (List.mem_of_getElem? (i := 38) rfl)) e123 V0 V0 (Or.inl ⟨rfl, rfl⟩) (by decide : ¬ (2 : Int32) < 0) (by decide : ¬ (3 : Int32) < 0) (by decide : ¬ (0 : Int32) < 0) (by decide) (by decide) (us := []) rfl (Nat.le_of_ble_eq_true rfl) N3 ge (g := (mkF m 106 #[.val (.ref oa), .val (.long qe), .second, .val (.long qc), .second, .val (.int (2 : Int32))] [(.int (0 : Int32)), (.int (3 : Int32)), (.ref ea), (.int (2 : Int32)), (.ref ea)])) rfl (by rw [hml]; rfl) (rest := []) rfl (hb hby d4_106) (by decide) (W := 0) (by show 2 * 0 + _ ≤ _; exact Nat.le_of_eq rfl) (by decide)
    have Zs125 : n0 ≤ h124.size := Nat.le_trans Z0 K124.1
    have Vc124 : Arv Z h124 ea kE .long (16 : Int32) [(.long x0), (.long x1), (.long (0 : Int64)), (.long (0 : Int64))] (.long (0 : Int64)) := V124
    have f126 := (F1.keep K124 (ninS nae nin0))
    obtain ⟨T127, X127, e127, st127⟩ := getF X124 hx hZ hown (host := "") (Or.inl (hw _ (List.mem_of_getElem? (i := 12) rfl))) Via.refl e124 f126 (g := (mkF m 110 #[.val (.ref oa), .val (.long qe), .second, .val (.long qc), .second, .val (.int (2 : Int32))] [(.ref oa)])) rfl rfl (hb hby d4_110)
    obtain ⟨T128, X128, e128, st128⟩ := getF X127 hx hZ hown (host := "") (Or.inl (hw _ (List.mem_of_getElem? (i := 12) rfl))) Via.refl e127 f126 (g := (mkF m 116 #[.val (.ref oa), .val (.long qe), .second, .val (.long qc), .second, .val (.int (2 : Int32))] [(.ref oa), (.int (2 : Int32)), (.ref ca)])) rfl rfl (hb hby d4_116)
    have f129 := (F2.keep K124 (ninS nae nin0))
    obtain ⟨T130, X130, e130, st130⟩ := getF X128 hx hZ hown (host := "") (Or.inl (hw _ (List.mem_of_getElem? (i := 19) rfl))) Via.refl e128 f129 (g := (mkF m 124 #[.val (.ref oa), .val (.long qe), .second, .val (.long qc), .second, .val (.int (2 : Int32))] [(.ref oa), (.int (3 : Int32)), (.ref ca), (.int (2 : Int32)), (.ref ca)])) rfl rfl (hb hby d4_124)
    have f131 := (V1.keep K124 (ninS (Ne.symm nec) nin0))
    obtain ⟨T132, h132, L132, X132, e132, N132, K132, V132, st132⟩ := cpA X130 hx hZ hown (hw _ (List.mem_of_getElem? (i := 36) rfl)) (hw _ (List.mem_of_getElem? (i := 39) rfl)) (hw _ (List.mem_of_getElem? (i := 37) rfl)) (hw _ (List.mem_of_getElem? (i := 38) rfl)) e130 f131 f131 (Or.inl ⟨rfl, rfl⟩) (by decide : ¬ (2 : Int32) < 0) (by decide : ¬ (3 : Int32) < 0) (by decide : ¬ (0 : Int32) < 0) (by decide) (by decide) (us := []) rfl (Nat.le_of_ble_eq_true rfl) N124 gc (g := (mkF m 130 #[.val (.ref oa), .val (.long qe), .second, .val (.long qc), .second, .val (.int (2 : Int32))] [(.int (0 : Int32)), (.int (3 : Int32)), (.ref ca), (.int (2 : Int32)), (.ref ca)])) rfl (by rw [hml]; rfl) (rest := []) rfl (hb hby d4_130) (by decide) (W := 0) (by show 2 * 0 + _ ≤ _; exact Nat.le_of_eq rfl) (by decide)
    have Zs133 : n0 ≤ h132.size := Nat.le_trans Zs125 K132.1
    have Vc132 : Arv Z h132 ca kC .long (16 : Int32) [(.long c0), (.long c1), (.long (0 : Int64)), (.long (0 : Int64))] (.long (0 : Int64)) := V132
    have f134 := ((F0.keep K124 (ninS nae nin0)).keep K132 (ninS nac nin0))
    obtain ⟨T135, X135, e135, st135⟩ := getF X132 hx hZ hown (host := "") (Or.inl (hw _ (List.mem_of_getElem? (i := 10) rfl))) Via.refl e132 f134 (g := (mkF m 134 #[.val (.ref oa), .val (.long qe), .second, .val (.long qc), .second, .val (.int (2 : Int32))] [(.ref oa)])) rfl rfl (hb hby d4_134)
    have f136 := (Vc124.keep K132 (ninS nec nin0))
    obtain ⟨cl137, Ar137, q137, S137, M137, H137, G137⟩ := id f136
    have hin137 : ¬ ((2 : Int32) < 0 ∨ cl137.slots.size ≤ ((2 : Int32)).toNatClampNeg) := inb_of S137 ⟨by decide, by decide⟩
    obtain ⟨T138, h138, X138, e138, W138, st138⟩ := stJ X135 hx hZ e135 Ar137 (j := (2 : Int32)) hin137 (g := (mkF m 140 #[.val (.ref oa), .val (.long qe), .second, .val (.long qc), .second, .val (.int (2 : Int32))] [(.long qe), (.int (2 : Int32)), (.ref ea)])) rfl rfl (hb hby d4_140)
    have N138 := Fr.snoc X138 N132 ge
    have Zs139 : n0 ≤ h138.size := by rw [W138.size]; exact Zs133
    have V138 : Arv Z h138 ea kE .long (16 : Int32) [(.long x0), (.long x1), (.long qe), (.long (0 : Int64))] (.long (0 : Int64)) := Arv.set Ar137 q137 S137 M137 H137 G137 rfl W138 2 rfl (Nat.le_of_ble_eq_true rfl)
    have f140 := ((f126.keep K132 (ninS nac nin0)).other W138 (Or.inl nae))
    obtain ⟨T141, X141, e141, st141⟩ := getF X138 hx hZ hown (host := "") (Or.inl (hw _ (List.mem_of_getElem? (i := 12) rfl))) Via.refl e138 f140 (g := (mkF m 142 #[.val (.ref oa), .val (.long qe), .second, .val (.long qc), .second, .val (.int (2 : Int32))] [(.ref oa)])) rfl rfl (hb hby d4_142)
    have f142 := (Vc132.other W138 (Ne.symm nec))
    obtain ⟨cl143, Ar143, q143, S143, M143, H143, G143⟩ := id f142
    have hin143 : ¬ ((2 : Int32) < 0 ∨ cl143.slots.size ≤ ((2 : Int32)).toNatClampNeg) := inb_of S143 ⟨by decide, by decide⟩
    obtain ⟨T144, h144, X144, e144, W144, st144⟩ := stJ X141 hx hZ e141 Ar143 (j := (2 : Int32)) hin143 (g := (mkF m 148 #[.val (.ref oa), .val (.long qe), .second, .val (.long qc), .second, .val (.int (2 : Int32))] [(.long qc), (.int (2 : Int32)), (.ref ca)])) rfl rfl (hb hby d4_148)
    have N144 := Fr.snoc X144 N138 gc
    have Zs145 : n0 ≤ h144.size := by rw [W144.size]; exact Zs139
    have V144 : Arv Z h144 ca kC .long (16 : Int32) [(.long c0), (.long c1), (.long qc), (.long (0 : Int64))] (.long (0 : Int64)) := Arv.set Ar143 q143 S143 M143 H143 G143 rfl W144 2 rfl (Nat.le_of_ble_eq_true rfl)
    have f146 := (((f129.keep K132 (ninS nac nin0)).other W138 (Or.inl nae)).other W144 (Or.inl nac))
    obtain ⟨T147, X147, e147, st147⟩ := getF X144 hx hZ hown (host := "") (Or.inl (hw _ (List.mem_of_getElem? (i := 19) rfl))) Via.refl e144 f146 (g := (mkF m 151 #[.val (.ref oa), .val (.long qe), .second, .val (.long qc), .second, .val (.int (2 : Int32))] [(.ref oa), (.ref oa)])) rfl rfl (hb hby d4_151)
    have f148 := ((((Ea.keep K124).keep K132).wr W138).wr W144)
    obtain ⟨T149, h149, X149, e149, W149, st149⟩ := putF X147 hx hZ hown (host := "") (Or.inl (hw _ (List.mem_of_getElem? (i := 19) rfl))) Via.refl e147 f146 f148 (Or.inl (hw _ (List.mem_of_getElem? (i := 20) rfl))) (hw _ (List.mem_of_getElem? (i := 1) rfl)) (ty := .int) (by decide) rfl rfl (g := (mkF m 156 #[.val (.ref oa), .val (.long qe), .second, .val (.long qc), .second, .val (.int (2 : Int32))] [(.int (3 : Int32)), (.ref oa)])) rfl rfl (hb hby d4_156)
    have N149 := Fr.snoc X149 N144 ga
    have Zs150 : n0 ≤ h149.size := by rw [W149.size]; exact Zs145
    have Fw149 := f146.same W149
    obtain ⟨fs, hr, hrun, hended, hW, hsame⟩ := X149.leave (v := none) (fun _ => rfl)
    refine ⟨_, _, pre115 _ ?_, hrun, hended, _, _, rfl, ?_, ⟨_, rfl⟩, hW, hsame.mono (by decide) (by decide)⟩
    · show Steps p.tables e below (T3.setTop (mkF m 13 #[.val (.ref oa), .val (.long qe), .second, .val (.long qc), .second, .unset] [(.int (-3 : Int32))])) _
      refine XS.istore X3.here hx rfl (hb hby d4_13) rfl (l' := #[.val (.ref oa), .val (.long qe), .second, .val (.long qc), .second, .val (.int (-3 : Int32))]) rfl ?_
      show Steps p.tables e below (T3.setTop (mkF m 15 #[.val (.ref oa), .val (.long qe), .second, .val (.long qc), .second, .val (.int (-3 : Int32))] [])) _
      refine XS.iload X3.here hx rfl (hb hby d4_15) rfl ?_
      show Steps p.tables e below (T3.setTop (mkF m 17 #[.val (.ref oa), .val (.long qe), .second, .val (.long qc), .second, .val (.int (-3 : Int32))] [(.int (-3 : Int32))])) _
      refine XS.ifYes X3.here hx rfl (pc0 := 17) (pc' := 32) rfl (hb hby d4_17) rfl (own_if (own_tlt (a := (-3 : Int32)) (b := (0 : Int32)) (by decide) (by decide) hc17_116).1) (by decide) (by decide) ?_
      show Steps p.tables e below (T3.setTop (mkF m 32 #[.val (.ref oa), .val (.long qe), .second, .val (.long qc), .second, .val (.int (-3 : Int32))] [])) _
      refine XS.iload X3.here hx rfl (hb hby d4_32) rfl ?_
      show Steps p.tables e below (T3.setTop (mkF m 34 #[.val (.ref oa), .val (.long qe), .second, .val (.long qc), .second, .val (.int (-3 : Int32))] [(.int (-3 : Int32))])) _
      refine XS.ineg X3.here hx rfl (hb hby d4_34) rfl ?_
      show Steps p.tables e below (T3.setTop (mkF m 35 #[.val (.ref oa), .val (.long qe), .second, .val (.long qc), .second, .val (.int (-3 : Int32))] [(.int (3 : Int32))])) _
      refine XS.iconst X3.here hx rfl (hb hby d4_35) ?_
      show Steps p.tables e below (T3.setTop (mkF m 36 #[.val (.ref oa), .val (.long qe), .second, .val (.long qc), .second, .val (.int (-3 : Int32))] [(.int (1 : Int32)), (.int (3 : Int32))])) _
      refine XS.isub X3.here hx rfl (hb hby d4_36) rfl ?_
      show Steps p.tables e below (T3.setTop (mkF m 37 #[.val (.ref oa), .val (.long qe), .second, .val (.long qc), .second, .val (.int (-3 : Int32))] [(.int (2 : Int32))])) _
      refine XS.istore X3.here hx rfl (hb hby d4_37) rfl (l' := #[.val (.ref oa), .val (.long qe), .second, .val (.long qc), .second, .val (.int (2 : Int32))]) rfl ?_
      show Steps p.tables e below (T3.setTop (mkF m 39 #[.val (.ref oa), .val (.long qe), .second, .val (.long qc), .second, .val (.int (2 : Int32))] [])) _
      refine XS.aloadN X3.here hx rfl (hb hby d4_39) rfl rfl ?_
      show Steps p.tables e below (T3.setTop (mkF m 40 #[.val (.ref oa), .val (.long qe), .second, .val (.long qc), .second, .val (.int (2 : Int32))] [(.ref oa)])) _
      refine st117 _ ?_
      show Steps p.tables e below (T117.setTop (mkF m 43 #[.val (.ref oa), .val (.long qe), .second, .val (.long qc), .second, .val (.int (2 : Int32))] [(.int (2 : Int32))])) _
      refine XS.aloadN X117.here hx rfl (hb hby d4_43) rfl rfl ?_
      show Steps p.tables e below (T117.setTop (mkF m 44 #[.val (.ref oa), .val (.long qe), .second, .val (.long qc), .second, .val (.int (2 : Int32))] [(.ref oa), (.int (2 : Int32))])) _
      refine st118 _ ?_
      show Steps p.tables e below (T118.setTop (mkF m 47 #[.val (.ref oa), .val (.long qe), .second, .val (.long qc), .second, .val (.int (2 : Int32))] [(.ref ea), (.int (2 : Int32))])) _
      refine X118.arraylength hx (by rw [e118]; exact Ar119.1) (State.isArrayOf_alike hZ.alike Ar119.2.1) (g := (mkF m 47 #[.val (.ref oa), .val (.long qe), .second, .val (.long qc), .second, .val (.int (2 : Int32))] [(.ref ea), (.int (2 : Int32))])) rfl rfl (hb hby d4_47) _ ?_
      rw [len_of S119 M119]
      show Steps p.tables e below (T118.setTop (mkF m 48 #[.val (.ref oa), .val (.long qe), .second, .val (.long qc), .second, .val (.int (2 : Int32))] [(.int (16 : Int32)), (.int (2 : Int32))])) _
      refine XS.icmpYes X118.here hx rfl (pc0 := 48) (pc' := 85) rfl (hb hby d4_48) rfl (own_feq (a := (2 : Int32)) (b := (16 : Int32)) (by decide) (by decide) hc48_120).2 (by decide) (by decide) ?_
      show Steps p.tables e below (T118.setTop (mkF m 85 #[.val (.ref oa), .val (.long qe), .second, .val (.long qc), .second, .val (.int (2 : Int32))] [])) _
      refine XS.aloadN X118.here hx rfl (hb hby d4_85) rfl rfl ?_
      show Steps p.tables e below (T118.setTop (mkF m 86 #[.val (.ref oa), .val (.long qe), .second, .val (.long qc), .second, .val (.int (2 : Int32))] [(.ref oa)])) _
      refine st121 _ ?_
      show Steps p.tables e below (T121.setTop (mkF m 89 #[.val (.ref oa), .val (.long qe), .second, .val (.long qc), .second, .val (.int (2 : Int32))] [(.ref ea)])) _
      refine XS.iload X121.here hx rfl (hb hby d4_89) rfl ?_
      show Steps p.tables e below (T121.setTop (mkF m 91 #[.val (.ref oa), .val (.long qe), .second, .val (.long qc), .second, .val (.int (2 : Int32))] [(.int (2 : Int32)), (.ref ea)])) _
      refine XS.aloadN X121.here hx rfl (hb hby d4_91) rfl rfl ?_
      show Steps p.tables e below (T121.setTop (mkF m 92 #[.val (.ref oa), .val (.long qe), .second, .val (.long qc), .second, .val (.int (2 : Int32))] [(.ref oa), (.int (2 : Int32)), (.ref ea)])) _
      refine st122 _ ?_
      show Steps p.tables e below (T122.setTop (mkF m 95 #[.val (.ref oa), .val (.long qe), .second, .val (.long qc), .second, .val (.int (2 : Int32))] [(.ref ea), (.int (2 : Int32)), (.ref ea)])) _
      refine XS.iload X122.here hx rfl (hb hby d4_95) rfl ?_
      show Steps p.tables e below (T122.setTop (mkF m 97 #[.val (.ref oa), .val (.long qe), .second, .val (.long qc), .second, .val (.int (2 : Int32))] [(.int (2 : Int32)), (.ref ea), (.int (2 : Int32)), (.ref ea)])) _
      refine XS.iconst X122.here hx rfl (hb hby d4_97) ?_
      show Steps p.tables e below (T122.setTop (mkF m 98 #[.val (.ref oa), .val (.long qe), .second, .val (.long qc), .second, .val (.int (2 : Int32))] [(.int (1 : Int32)), (.int (2 : Int32)), (.ref ea), (.int (2 : Int32)), (.ref ea)])) _
      refine XS.iadd X122.here hx rfl (hb hby d4_98) rfl ?_
      show Steps p.tables e below (T122.setTop (mkF m 99 #[.val (.ref oa), .val (.long qe), .second, .val (.long qc), .second, .val (.int (2 : Int32))] [(.int (3 : Int32)), (.ref ea), (.int (2 : Int32)), (.ref ea)])) _
      refine XS.aloadN X122.here hx rfl (hb hby d4_99) rfl rfl ?_
      show Steps p.tables e below (T122.setTop (mkF m 100 #[.val (.ref oa), .val (.long qe), .second, .val (.long qc), .second, .val (.int (2 : Int32))] [(.ref oa), (.int (3 : Int32)), (.ref ea), (.int (2 : Int32)), (.ref ea)])) _
      refine st123 _ ?_
      show Steps p.tables e below (T123.setTop (mkF m 103 #[.val (.ref oa), .val (.long qe), .second, .val (.long qc), .second, .val (.int (2 : Int32))] [(.int (2 : Int32)), (.int (3 : Int32)), (.ref ea), (.int (2 : Int32)), (.ref ea)])) _
      refine XS.iload X123.here hx rfl (hb hby d4_103) rfl ?_
      show Steps p.tables e below (T123.setTop (mkF m 105 #[.val (.ref oa), .val (.long qe), .second, .val (.long qc), .second, .val (.int (2 : Int32))] [(.int (2 : Int32)), (.int (2 : Int32)), (.int (3 : Int32)), (.ref ea), (.int (2 : Int32)), (.ref ea)])) _
      refine XS.isub X123.here hx rfl (hb hby d4_105) rfl ?_
      show Steps p.tables e below (T123.setTop (mkF m 106 #[.val (.ref oa), .val (.long qe), .second, .val (.long qc), .second, .val (.int (2 : Int32))] [(.int (0 : Int32)), (.int (3 : Int32)), (.ref ea), (.int (2 : Int32)), (.ref ea)])) _
      refine st124 _ ?_
      show Steps p.tables e below (T124.setTop (mkF m 109 #[.val (.ref oa), .val (.long qe), .second, .val (.long qc), .second, .val (.int (2 : Int32))] [])) _
      refine XS.aloadN X124.here hx rfl (hb hby d4_109) rfl rfl ?_
      show Steps p.tables e below (T124.setTop (mkF m 110 #[.val (.ref oa), .val (.long qe), .second, .val (.long qc), .second, .val (.int (2 : Int32))] [(.ref oa)])) _
      refine st127 _ ?_
      show Steps p.tables e below (T127.setTop (mkF m 113 #[.val (.ref oa), .val (.long qe), .second, .val (.long qc), .second, .val (.int (2 : Int32))] [(.ref ca)])) _
      refine XS.iload X127.here hx rfl (hb hby d4_113) rfl ?_
      show Steps p.tables e below (T127.setTop (mkF m 115 #[.val (.ref oa), .val (.long qe), .second, .val (.long qc), .second, .val (.int (2 : Int32))] [(.int (2 : Int32)), (.ref ca)])) _
      refine XS.aloadN X127.here hx rfl (hb hby d4_115) rfl rfl ?_
      show Steps p.tables e below (T127.setTop (mkF m 116 #[.val (.ref oa), .val (.long qe), .second, .val (.long qc), .second, .val (.int (2 : Int32))] [(.ref oa), (.int (2 : Int32)), (.ref ca)])) _
      refine st128 _ ?_
      show Steps p.tables e below (T128.setTop (mkF m 119 #[.val (.ref oa), .val (.long qe), .second, .val (.long qc), .second, .val (.int (2 : Int32))] [(.ref ca), (.int (2 : Int32)), (.ref ca)])) _
      refine XS.iload X128.here hx rfl (hb hby d4_119) rfl ?_
      show Steps p.tables e below (T128.setTop (mkF m 121 #[.val (.ref oa), .val (.long qe), .second, .val (.long qc), .second, .val (.int (2 : Int32))] [(.int (2 : Int32)), (.ref ca), (.int (2 : Int32)), (.ref ca)])) _
      refine XS.iconst X128.here hx rfl (hb hby d4_121) ?_
      show Steps p.tables e below (T128.setTop (mkF m 122 #[.val (.ref oa), .val (.long qe), .second, .val (.long qc), .second, .val (.int (2 : Int32))] [(.int (1 : Int32)), (.int (2 : Int32)), (.ref ca), (.int (2 : Int32)), (.ref ca)])) _
      refine XS.iadd X128.here hx rfl (hb hby d4_122) rfl ?_
      show Steps p.tables e below (T128.setTop (mkF m 123 #[.val (.ref oa), .val (.long qe), .second, .val (.long qc), .second, .val (.int (2 : Int32))] [(.int (3 : Int32)), (.ref ca), (.int (2 : Int32)), (.ref ca)])) _
      refine XS.aloadN X128.here hx rfl (hb hby d4_123) rfl rfl ?_
      show Steps p.tables e below (T128.setTop (mkF m 124 #[.val (.ref oa), .val (.long qe), .second, .val (.long qc), .second, .val (.int (2 : Int32))] [(.ref oa), (.int (3 : Int32)), (.ref ca), (.int (2 : Int32)), (.ref ca)])) _
      refine st130 _ ?_
      show Steps p.tables e below (T130.setTop (mkF m 127 #[.val (.ref oa), .val (.long qe), .second, .val (.long qc), .second, .val (.int (2 : Int32))] [(.int (2 : Int32)), (.int (3 : Int32)), (.ref ca), (.int (2 : Int32)), (.ref ca)])) _
      refine XS.iload X130.here hx rfl (hb hby d4_127) rfl ?_
      show Steps p.tables e below (T130.setTop (mkF m 129 #[.val (.ref oa), .val (.long qe), .second, .val (.long qc), .second, .val (.int (2 : Int32))] [(.int (2 : Int32)), (.int (2 : Int32)), (.int (3 : Int32)), (.ref ca), (.int (2 : Int32)), (.ref ca)])) _
      refine XS.isub X130.here hx rfl (hb hby d4_129) rfl ?_
      show Steps p.tables e below (T130.setTop (mkF m 130 #[.val (.ref oa), .val (.long qe), .second, .val (.long qc), .second, .val (.int (2 : Int32))] [(.int (0 : Int32)), (.int (3 : Int32)), (.ref ca), (.int (2 : Int32)), (.ref ca)])) _
      refine st132 _ ?_
      show Steps p.tables e below (T132.setTop (mkF m 133 #[.val (.ref oa), .val (.long qe), .second, .val (.long qc), .second, .val (.int (2 : Int32))] [])) _
      refine XS.aloadN X132.here hx rfl (hb hby d4_133) rfl rfl ?_
      show Steps p.tables e below (T132.setTop (mkF m 134 #[.val (.ref oa), .val (.long qe), .second, .val (.long qc), .second, .val (.int (2 : Int32))] [(.ref oa)])) _
      refine st135 _ ?_
      show Steps p.tables e below (T135.setTop (mkF m 137 #[.val (.ref oa), .val (.long qe), .second, .val (.long qc), .second, .val (.int (2 : Int32))] [(.ref ea)])) _
      refine XS.iload X135.here hx rfl (hb hby d4_137) rfl ?_
      show Steps p.tables e below (T135.setTop (mkF m 139 #[.val (.ref oa), .val (.long qe), .second, .val (.long qc), .second, .val (.int (2 : Int32))] [(.int (2 : Int32)), (.ref ea)])) _
      refine XS.lloadN X135.here hx rfl (hb hby d4_139) rfl ?_
      show Steps p.tables e below (T135.setTop (mkF m 140 #[.val (.ref oa), .val (.long qe), .second, .val (.long qc), .second, .val (.int (2 : Int32))] [(.long qe), (.int (2 : Int32)), (.ref ea)])) _
      refine st138 _ ?_
      show Steps p.tables e below (T138.setTop (mkF m 141 #[.val (.ref oa), .val (.long qe), .second, .val (.long qc), .second, .val (.int (2 : Int32))] [])) _
      refine XS.aloadN X138.here hx rfl (hb hby d4_141) rfl rfl ?_
      show Steps p.tables e below (T138.setTop (mkF m 142 #[.val (.ref oa), .val (.long qe), .second, .val (.long qc), .second, .val (.int (2 : Int32))] [(.ref oa)])) _
      refine st141 _ ?_
      show Steps p.tables e below (T141.setTop (mkF m 145 #[.val (.ref oa), .val (.long qe), .second, .val (.long qc), .second, .val (.int (2 : Int32))] [(.ref ca)])) _
      refine XS.iload X141.here hx rfl (hb hby d4_145) rfl ?_
      show Steps p.tables e below (T141.setTop (mkF m 147 #[.val (.ref oa), .val (.long qe), .second, .val (.long qc), .second, .val (.int (2 : Int32))] [(.int (2 : Int32)), (.ref ca)])) _
      refine XS.lloadN X141.here hx rfl (hb hby d4_147) rfl ?_
      show Steps p.tables e below (T141.setTop (mkF m 148 #[.val (.ref oa), .val (.long qe), .second, .val (.long qc), .second, .val (.int (2 : Int32))] [(.long qc), (.int (2 : Int32)), (.ref ca)])) _
      refine st144 _ ?_
      show Steps p.tables e below (T144.setTop (mkF m 149 #[.val (.ref oa), .val (.long qe), .second, .val (.long qc), .second, .val (.int (2 : Int32))] [])) _
      refine XS.aloadN X144.here hx rfl (hb hby d4_149) rfl rfl ?_
      show Steps p.tables e below (T144.setTop (mkF m 150 #[.val (.ref oa), .val (.long qe), .second, .val (.long qc), .second, .val (.int (2 : Int32))] [(.ref oa)])) _
      refine XS.dup X144.here hx rfl (hb hby d4_150) rfl rfl ?_
      show Steps p.tables e below (T144.setTop (mkF m 151 #[.val (.ref oa), .val (.long qe), .second, .val (.long qc), .second, .val (.int (2 : Int32))] [(.ref oa), (.ref oa)])) _
      refine st147 _ ?_
      show Steps p.tables e below (T147.setTop (mkF m 154 #[.val (.ref oa), .val (.long qe), .second, .val (.long qc), .second, .val (.int (2 : Int32))] [(.int (2 : Int32)), (.ref oa)])) _
      refine XS.iconst X147.here hx rfl (hb hby d4_154) ?_
      show Steps p.tables e below (T147.setTop (mkF m 155 #[.val (.ref oa), .val (.long qe), .second, .val (.long qc), .second, .val (.int (2 : Int32))] [(.int (1 : Int32)), (.int (2 : Int32)), (.ref oa)])) _
      refine XS.iadd X147.here hx rfl (hb hby d4_155) rfl ?_
      show Steps p.tables e below (T147.setTop (mkF m 156 #[.val (.ref oa), .val (.long qe), .second, .val (.long qc), .second, .val (.int (2 : Int32))] [(.int (3 : Int32)), (.ref oa)])) _
      refine st149 _ ?_
      show Steps p.tables e below (T149.setTop (mkF m 159 #[.val (.ref oa), .val (.long qe), .second, .val (.long qc), .second, .val (.int (2 : Int32))] [])) _
      exact X149.returnOut hx Bd.returns (hb hby d4_159) hr
    · show Q_add2 Z oa qe qc ea ca kE kC x0 x1 c0 c1 h0 n0 _ T149.heap _
      rw [e149]
      have f151 := ((((((Keep.refl h0 [oa, ea, ca]).trans K124 (allS (P := fun x => x ∈ [oa, ea, ca] ∨ h0.size ≤ x) (Or.inl (List.mem_of_getElem? (i := 1) rfl)) all0)).trans K132 (allS (P := fun x => x ∈ [oa, ea, ca] ∨ h0.size ≤ x) (Or.inl (List.mem_of_getElem? (i := 2) rfl)) all0)).wr W138 (Or.inl (List.mem_of_getElem? (i := 1) rfl))).wr W144 (Or.inl (List.mem_of_getElem? (i := 2) rfl))).wr W149 (Or.inl (List.mem_of_getElem? (i := 0) rfl)))
      have f152 := (f148.wr W149)
      have f153 := (((f134.other W138 (Or.inl nae)).other W144 (Or.inl nac)).other W149 (Or.inr (slot_ne (Or.inl (hw _ (List.mem_of_getElem? (i := 11) rfl))) (Or.inl (hw _ (List.mem_of_getElem? (i := 20) rfl))) (by decide) (t := (.array .long)) (t' := .int) (by decide) (by decide))))
      have f154 := ((f140.other W144 (Or.inl nac)).other W149 (Or.inr (slot_ne (Or.inl (hw _ (List.mem_of_getElem? (i := 13) rfl))) (Or.inl (hw _ (List.mem_of_getElem? (i := 20) rfl))) (by decide) (t := (.array .long)) (t' := .int) (by decide) (by decide))))
      have f155 := ((V138.other W144 nec).other W149 (Ne.symm nae))
      have f156 := (V144.other W149 (Ne.symm nac))
      exact ⟨rfl, N149, f151, f152, f153, f154, Or.inr ⟨x0, x1, qe, c0, c1, qc, Fw149, f155, f156, by omega, by omega, by omega, by omega, by omega, by omega, fun s => by omega⟩⟩
theorem d3_0 : decode prog_20_method_4_code 0 = .ok (.lconst 0, 1) := by decide +kernel
theorem d3_1 : decode prog_20_method_4_code 1 = .ok (.lstore_n 3, 1) := by decide +kernel
theorem d3_2 : decode prog_20_method_4_code 2 = .ok (.iconst 0, 1) := by decide +kernel
theorem d3_3 : decode prog_20_method_4_code 3 = .ok (.istore 5, 2) := by decide +kernel
theorem d3_5 : decode prog_20_method_4_code 5 = .ok (.iload 5, 2) := by decide +kernel
theorem d3_7 : decode prog_20_method_4_code 7 = .ok (.aload_n 0, 1) := by decide +kernel
theorem d3_8 : decode prog_20_method_4_code 8 = .ok (.getfield 16, 3) := by decide +kernel
theorem d3_11 : decode prog_20_method_4_code 11 = .ok (.if_icmp .ge 31, 3) := by decide +kernel
theorem d3_42 : decode prog_20_method_4_code 42 = .ok (.lload_n 3, 1) := by decide +kernel
theorem d3_43 : decode prog_20_method_4_code 43 = .ok (.lreturn, 1) := by decide +kernel
theorem ef_rm_h0 (m : MethodId) (x0 : Addr) (x1 : Int64) : entryFrame m #[(.ref x0), (.long x1)] 6 = mkF m 0 #[.val (.ref x0), .val (.long x1), .second, .unset, .unset, .unset] [] := by first | (simp [entryFrame, mkF, argsToLocals, Value.category]; done) | rfl
def Q_h0 (Z : State) (oa : Addr) (qs : Int64) (ea : Addr) (ca : Addr) (kE : ClassId) (kC : ClassId) (h0 : Heap) (n0 : Nat) (v : Option Value) (h : Heap) (L : List Loc) : Prop := ∃ z : Int64, v = some (.long z) ∧ (z.toInt = 0) ∧ Fr n0 L ∧ h = h0
set_option maxRecDepth 65536 in
set_option maxHeartbeats 40000000 in
theorem rm_h0 (l : Launch) (Z : State) (a0 : Array Value) (hw : ∀ d ∈ tables_1, d.before a0 Z = true) (ws : List Jvm.Cond) (oa : Addr) (qs : Int64) (ea : Addr) (ca : Addr) (kE : ClassId) (kC : ClassId) (h0 : Heap) (n0 : Nat) (Z0 : n0 ≤ h0.size) (Ea : Exa Z h0 oa "com/example/foreslot/foreslot/CountsByEnd") (F0 : Fld Z h0 oa "com/example/foreslot/foreslot/CountsByEnd" "ends" "[J" (.ref ea)) (F1 : Fld Z h0 oa "com/example/foreslot/foreslot/CountsByEnd" "counts" "[J" (.ref ca)) (F2 : Fld Z h0 oa "com/example/foreslot/foreslot/CountsByEnd" "size" "I" (.int (0 : Int32))) (V0 : Arv Z h0 ea kE .long (16 : Int32) [(.long (0 : Int64)), (.long (0 : Int64)), (.long (0 : Int64)), (.long (0 : Int64))] (.long (0 : Int64))) (V1 : Arv Z h0 ca kC .long (16 : Int32) [(.long (0 : Int64)), (.long (0 : Int64)), (.long (0 : Int64)), (.long (0 : Int64))] (.long (0 : Int64))) (kt : 0 ≤ 100000) :
    MetFree l (⟨"com/example/foreslot/foreslot/CountsByEnd", "heldUntilAtLatest", "(J)J"⟩ : MethodName) (head1 (Jvm.Cond.code (⟨"com/example/foreslot/foreslot/CountsByEnd", "heldUntilAtLatest", "(J)J"⟩ : MethodName) prog_20_method_4_code 6 (some .long) :: ws) ({ frames := 0, cells := 0, slots := 0, locals := 0 } : Room)) (fun a U => a = #[(.ref oa), (.long qs)] ∧ Z.Warmed39 U.vm ∧ U.heap = h0) (fun _ _ _ _ _ => True) (fun _ U o U' => ∃ v L, o = .returned v ∧ Q_h0 Z oa qs ea ca kE kC h0 n0 v U'.heap L ∧ FrameEnd U o U' L ({ frames := 0, cells := 0, slots := 0, locals := 0 } : Room).cells ({ frames := 0, cells := 0, slots := 0, locals := 0 } : Room).slots) := by
  refine MetFree.of_bodySF (plainFor_of_name pn_1) hisR ?_
  intro p e s m args below meth c s₁ Bd hml0 hP hK
  obtain ⟨rfl, hZ, hh⟩ := hP
  have hx := Bd.exec
  have hby := Bd.bytes
  have hml : c.maxLocals = 6 := hml0
  have hown : s.vm.findClass "com/example/foreslot/foreslot/CountsByEnd" = some m.cls := findClass_of_methodNamed Bd.named
  have hnm := (name_of_methodNamed Bd.named Bd.method).1
  have X0 : Stand p l e ({ frames := 0, cells := 0, slots := 0, locals := 0 } : Room) s m #[(.ref oa), (.long qs)] below meth c s₁ [] 0 0 := Stand.of_body Bd
  have e0 : s₁.heap = h0 := by rw [← hh, Bd.state]; rfl
  have N0 := Fr.nil n0
  have pre0 : ∀ t, Steps p.tables e below (s₁.setTop (mkF m 0 #[.val (.ref oa), .val (.long qs), .second, .unset, .unset, .unset] [])) t → Steps p.tables e below (s₁.setTop (entryFrame m #[(.ref oa), (.long qs)] 6)) t := fun t k => castTop (ef_rm_h0 m oa qs) k
  obtain ⟨T1, X1, e1, st1⟩ := getF X0 hx hZ hown (host := "") (Or.inl (hw _ (List.mem_of_getElem? (i := 19) rfl))) Via.refl e0 F2 (g := (mkF m 8 #[.val (.ref oa), .val (.long qs), .second, .val (.long (0 : Int64)), .second, .val (.int (0 : Int32))] [(.ref oa), (.int (0 : Int32))])) rfl rfl (hb hby d3_8)
  have hc11_2 : ¬ ((0 : Int) < (0 : Int)) := by decide
  obtain ⟨fs, hr, hrun, hended, hW, hsame⟩ := X1.leave (v := some (.long (0 : Int64))) (fun h => by rw [Bd.returns] at h; cases h)
  refine ⟨_, _, pre0 _ ?_, hrun, hended, _, _, rfl, ?_, ⟨_, rfl⟩, hW, hsame.mono (by decide) (by decide)⟩
  · show Steps p.tables e below (s₁.setTop (mkF m 0 #[.val (.ref oa), .val (.long qs), .second, .unset, .unset, .unset] [])) _
    refine XS.lconst X0.here hx rfl (hb hby d3_0) ?_
    show Steps p.tables e below (s₁.setTop (mkF m 1 #[.val (.ref oa), .val (.long qs), .second, .unset, .unset, .unset] [(.long (0 : Int64))])) _
    refine XS.lstoreN X0.here hx rfl (hb hby d3_1) rfl (l' := #[.val (.ref oa), .val (.long qs), .second, .val (.long (0 : Int64)), .second, .unset]) rfl ?_
    show Steps p.tables e below (s₁.setTop (mkF m 2 #[.val (.ref oa), .val (.long qs), .second, .val (.long (0 : Int64)), .second, .unset] [])) _
    refine XS.iconst X0.here hx rfl (hb hby d3_2) ?_
    show Steps p.tables e below (s₁.setTop (mkF m 3 #[.val (.ref oa), .val (.long qs), .second, .val (.long (0 : Int64)), .second, .unset] [(.int (0 : Int32))])) _
    refine XS.istore X0.here hx rfl (hb hby d3_3) rfl (l' := #[.val (.ref oa), .val (.long qs), .second, .val (.long (0 : Int64)), .second, .val (.int (0 : Int32))]) rfl ?_
    show Steps p.tables e below (s₁.setTop (mkF m 5 #[.val (.ref oa), .val (.long qs), .second, .val (.long (0 : Int64)), .second, .val (.int (0 : Int32))] [])) _
    refine XS.iload X0.here hx rfl (hb hby d3_5) rfl ?_
    show Steps p.tables e below (s₁.setTop (mkF m 7 #[.val (.ref oa), .val (.long qs), .second, .val (.long (0 : Int64)), .second, .val (.int (0 : Int32))] [(.int (0 : Int32))])) _
    refine XS.aloadN X0.here hx rfl (hb hby d3_7) rfl rfl ?_
    show Steps p.tables e below (s₁.setTop (mkF m 8 #[.val (.ref oa), .val (.long qs), .second, .val (.long (0 : Int64)), .second, .val (.int (0 : Int32))] [(.ref oa), (.int (0 : Int32))])) _
    refine st1 _ ?_
    show Steps p.tables e below (T1.setTop (mkF m 11 #[.val (.ref oa), .val (.long qs), .second, .val (.long (0 : Int64)), .second, .val (.int (0 : Int32))] [(.int (0 : Int32)), (.int (0 : Int32))])) _
    refine XS.icmpYes X1.here hx rfl (pc0 := 11) (pc' := 42) rfl (hb hby d3_11) rfl (own_flt (a := (0 : Int32)) (b := (0 : Int32)) (by decide) (by decide) hc11_2).2.1 (by decide) (by decide) ?_
    show Steps p.tables e below (T1.setTop (mkF m 42 #[.val (.ref oa), .val (.long qs), .second, .val (.long (0 : Int64)), .second, .val (.int (0 : Int32))] [])) _
    refine XS.lloadN X1.here hx rfl (hb hby d3_42) rfl ?_
    show Steps p.tables e below (T1.setTop (mkF m 43 #[.val (.ref oa), .val (.long qs), .second, .val (.long (0 : Int64)), .second, .val (.int (0 : Int32))] [(.long (0 : Int64))])) _
    jvm_step X1.here [X1.here.top, hx, (hb hby d3_43), X1.method', Bd.returns, narrow]
    first | (intro acts; rw [hr _ acts rfl rfl rfl]) | rw [hr _ _ rfl rfl rfl]
    exact Steps.refl _
  · show Q_h0 Z oa qs ea ca kE kC h0 n0 _ T1.heap _
    rw [e1]
    exact ⟨_, rfl, by have iv : ((0 : Int64)).toInt = (0 : Int) := (by decide); omega, N0, rfl⟩
theorem d3_14 : decode prog_20_method_4_code 14 = .ok (.aload_n 0, 1) := by decide +kernel
theorem d3_15 : decode prog_20_method_4_code 15 = .ok (.getfield 9, 3) := by decide +kernel
theorem d3_18 : decode prog_20_method_4_code 18 = .ok (.iload 5, 2) := by decide +kernel
theorem d3_20 : decode prog_20_method_4_code 20 = .ok (.laload, 1) := by decide +kernel
theorem d3_21 : decode prog_20_method_4_code 21 = .ok (.lload_n 1, 1) := by decide +kernel
theorem d3_22 : decode prog_20_method_4_code 22 = .ok (.lcmp, 1) := by decide +kernel
theorem d3_23 : decode prog_20_method_4_code 23 = .ok (.ifCond .gt 19, 3) := by decide +kernel
theorem d3_26 : decode prog_20_method_4_code 26 = .ok (.lload_n 3, 1) := by decide +kernel
theorem d3_27 : decode prog_20_method_4_code 27 = .ok (.aload_n 0, 1) := by decide +kernel
theorem d3_28 : decode prog_20_method_4_code 28 = .ok (.getfield 13, 3) := by decide +kernel
theorem d3_31 : decode prog_20_method_4_code 31 = .ok (.iload 5, 2) := by decide +kernel
theorem d3_33 : decode prog_20_method_4_code 33 = .ok (.laload, 1) := by decide +kernel
theorem d3_34 : decode prog_20_method_4_code 34 = .ok (.ladd, 1) := by decide +kernel
theorem d3_35 : decode prog_20_method_4_code 35 = .ok (.lstore_n 3, 1) := by decide +kernel
theorem d3_36 : decode prog_20_method_4_code 36 = .ok (.iinc 5 1, 3) := by decide +kernel
theorem d3_39 : decode prog_20_method_4_code 39 = .ok (.goto (-34), 3) := by decide +kernel
theorem ef_rm_h1 (m : MethodId) (x0 : Addr) (x1 : Int64) : entryFrame m #[(.ref x0), (.long x1)] 6 = mkF m 0 #[.val (.ref x0), .val (.long x1), .second, .unset, .unset, .unset] [] := by first | (simp [entryFrame, mkF, argsToLocals, Value.category]; done) | rfl
def Q_h1 (Z : State) (oa : Addr) (qs : Int64) (ea : Addr) (ca : Addr) (kE : ClassId) (kC : ClassId) (x0 : Int64) (c0 : Int64) (h0 : Heap) (n0 : Nat) (v : Option Value) (h : Heap) (L : List Loc) : Prop := ∃ z : Int64, v = some (.long z) ∧ (z.toInt = own_f x0.toInt qs.toInt c0.toInt) ∧ Fr n0 L ∧ h = h0
set_option maxRecDepth 65536 in
set_option maxHeartbeats 40000000 in
theorem rm_h1 (l : Launch) (Z : State) (a0 : Array Value) (hw : ∀ d ∈ tables_1, d.before a0 Z = true) (ws : List Jvm.Cond) (oa : Addr) (qs : Int64) (ea : Addr) (ca : Addr) (kE : ClassId) (kC : ClassId) (x0 : Int64) (c0 : Int64) (h0 : Heap) (n0 : Nat) (Z0 : n0 ≤ h0.size) (Ea : Exa Z h0 oa "com/example/foreslot/foreslot/CountsByEnd") (F0 : Fld Z h0 oa "com/example/foreslot/foreslot/CountsByEnd" "ends" "[J" (.ref ea)) (F1 : Fld Z h0 oa "com/example/foreslot/foreslot/CountsByEnd" "counts" "[J" (.ref ca)) (F2 : Fld Z h0 oa "com/example/foreslot/foreslot/CountsByEnd" "size" "I" (.int (1 : Int32))) (V0 : Arv Z h0 ea kE .long (16 : Int32) [(.long x0), (.long (0 : Int64)), (.long (0 : Int64)), (.long (0 : Int64))] (.long (0 : Int64))) (V1 : Arv Z h0 ca kC .long (16 : Int32) [(.long c0), (.long (0 : Int64)), (.long (0 : Int64)), (.long (0 : Int64))] (.long (0 : Int64))) (kc0 : 1 ≤ c0.toInt) (kt : c0.toInt ≤ 100000) :
    MetFree l (⟨"com/example/foreslot/foreslot/CountsByEnd", "heldUntilAtLatest", "(J)J"⟩ : MethodName) (head1 (Jvm.Cond.code (⟨"com/example/foreslot/foreslot/CountsByEnd", "heldUntilAtLatest", "(J)J"⟩ : MethodName) prog_20_method_4_code 6 (some .long) :: ws) ({ frames := 0, cells := 0, slots := 0, locals := 0 } : Room)) (fun a U => a = #[(.ref oa), (.long qs)] ∧ Z.Warmed39 U.vm ∧ U.heap = h0) (fun _ _ _ _ _ => True) (fun _ U o U' => ∃ v L, o = .returned v ∧ Q_h1 Z oa qs ea ca kE kC x0 c0 h0 n0 v U'.heap L ∧ FrameEnd U o U' L ({ frames := 0, cells := 0, slots := 0, locals := 0 } : Room).cells ({ frames := 0, cells := 0, slots := 0, locals := 0 } : Room).slots) := by
  refine MetFree.of_bodySF (plainFor_of_name pn_1) hisR ?_
  intro p e s m args below meth c s₁ Bd hml0 hP hK
  obtain ⟨rfl, hZ, hh⟩ := hP
  have hx := Bd.exec
  have hby := Bd.bytes
  have hml : c.maxLocals = 6 := hml0
  have hown : s.vm.findClass "com/example/foreslot/foreslot/CountsByEnd" = some m.cls := findClass_of_methodNamed Bd.named
  have hnm := (name_of_methodNamed Bd.named Bd.method).1
  have X0 : Stand p l e ({ frames := 0, cells := 0, slots := 0, locals := 0 } : Room) s m #[(.ref oa), (.long qs)] below meth c s₁ [] 0 0 := Stand.of_body Bd
  have e0 : s₁.heap = h0 := by rw [← hh, Bd.state]; rfl
  have N0 := Fr.nil n0
  have pre0 : ∀ t, Steps p.tables e below (s₁.setTop (mkF m 0 #[.val (.ref oa), .val (.long qs), .second, .unset, .unset, .unset] [])) t → Steps p.tables e below (s₁.setTop (entryFrame m #[(.ref oa), (.long qs)] 6)) t := fun t k => castTop (ef_rm_h1 m oa qs) k
  obtain ⟨T1, X1, e1, st1⟩ := getF X0 hx hZ hown (host := "") (Or.inl (hw _ (List.mem_of_getElem? (i := 19) rfl))) Via.refl e0 F2 (g := (mkF m 8 #[.val (.ref oa), .val (.long qs), .second, .val (.long (0 : Int64)), .second, .val (.int (0 : Int32))] [(.ref oa), (.int (0 : Int32))])) rfl rfl (hb hby d3_8)
  have hc11_2 : (0 : Int) < (1 : Int) := by decide
  obtain ⟨T3, X3, e3, st3⟩ := getF X1 hx hZ hown (host := "") (Or.inl (hw _ (List.mem_of_getElem? (i := 10) rfl))) Via.refl e1 F0 (g := (mkF m 15 #[.val (.ref oa), .val (.long qs), .second, .val (.long (0 : Int64)), .second, .val (.int (0 : Int32))] [(.ref oa)])) rfl rfl (hb hby d3_15)
  obtain ⟨cl4, Ar4, q4, S4, M4, H4, G4⟩ := id V0
  have hin4 : ¬ ((0 : Int32) < 0 ∨ cl4.slots.size ≤ ((0 : Int32)).toNatClampNeg) := inb_of S4 ⟨by decide, by decide⟩
  have hat4 : cl4.slots[((0 : Int32)).toNatClampNeg]? = some (.long x0) := Has.at H4 hin4 rfl
  have pre6 : ∀ t, Steps p.tables e below (T3.setTop (mkF m 23 #[.val (.ref oa), .val (.long qs), .second, .val (.long (0 : Int64)), .second, .val (.int (0 : Int32))] [(.int (lcmpW x0 qs))])) t → Steps p.tables e below (s₁.setTop (entryFrame m #[(.ref oa), (.long qs)] 6)) t := fun t kt => by
    refine pre0 _ ?_
    show Steps p.tables e below (s₁.setTop (mkF m 0 #[.val (.ref oa), .val (.long qs), .second, .unset, .unset, .unset] [])) _
    refine XS.lconst X0.here hx rfl (hb hby d3_0) ?_
    show Steps p.tables e below (s₁.setTop (mkF m 1 #[.val (.ref oa), .val (.long qs), .second, .unset, .unset, .unset] [(.long (0 : Int64))])) _
    refine XS.lstoreN X0.here hx rfl (hb hby d3_1) rfl (l' := #[.val (.ref oa), .val (.long qs), .second, .val (.long (0 : Int64)), .second, .unset]) rfl ?_
    show Steps p.tables e below (s₁.setTop (mkF m 2 #[.val (.ref oa), .val (.long qs), .second, .val (.long (0 : Int64)), .second, .unset] [])) _
    refine XS.iconst X0.here hx rfl (hb hby d3_2) ?_
    show Steps p.tables e below (s₁.setTop (mkF m 3 #[.val (.ref oa), .val (.long qs), .second, .val (.long (0 : Int64)), .second, .unset] [(.int (0 : Int32))])) _
    refine XS.istore X0.here hx rfl (hb hby d3_3) rfl (l' := #[.val (.ref oa), .val (.long qs), .second, .val (.long (0 : Int64)), .second, .val (.int (0 : Int32))]) rfl ?_
    show Steps p.tables e below (s₁.setTop (mkF m 5 #[.val (.ref oa), .val (.long qs), .second, .val (.long (0 : Int64)), .second, .val (.int (0 : Int32))] [])) _
    refine XS.iload X0.here hx rfl (hb hby d3_5) rfl ?_
    show Steps p.tables e below (s₁.setTop (mkF m 7 #[.val (.ref oa), .val (.long qs), .second, .val (.long (0 : Int64)), .second, .val (.int (0 : Int32))] [(.int (0 : Int32))])) _
    refine XS.aloadN X0.here hx rfl (hb hby d3_7) rfl rfl ?_
    show Steps p.tables e below (s₁.setTop (mkF m 8 #[.val (.ref oa), .val (.long qs), .second, .val (.long (0 : Int64)), .second, .val (.int (0 : Int32))] [(.ref oa), (.int (0 : Int32))])) _
    refine st1 _ ?_
    show Steps p.tables e below (T1.setTop (mkF m 11 #[.val (.ref oa), .val (.long qs), .second, .val (.long (0 : Int64)), .second, .val (.int (0 : Int32))] [(.int (1 : Int32)), (.int (0 : Int32))])) _
    refine XS.icmpNo X1.here hx rfl (hb hby d3_11) rfl (own_tlt (a := (0 : Int32)) (b := (1 : Int32)) (by decide) (by decide) hc11_2).2.1 ?_
    show Steps p.tables e below (T1.setTop (mkF m 14 #[.val (.ref oa), .val (.long qs), .second, .val (.long (0 : Int64)), .second, .val (.int (0 : Int32))] [])) _
    refine XS.aloadN X1.here hx rfl (hb hby d3_14) rfl rfl ?_
    show Steps p.tables e below (T1.setTop (mkF m 15 #[.val (.ref oa), .val (.long qs), .second, .val (.long (0 : Int64)), .second, .val (.int (0 : Int32))] [(.ref oa)])) _
    refine st3 _ ?_
    show Steps p.tables e below (T3.setTop (mkF m 18 #[.val (.ref oa), .val (.long qs), .second, .val (.long (0 : Int64)), .second, .val (.int (0 : Int32))] [(.ref ea)])) _
    refine XS.iload X3.here hx rfl (hb hby d3_18) rfl ?_
    show Steps p.tables e below (T3.setTop (mkF m 20 #[.val (.ref oa), .val (.long qs), .second, .val (.long (0 : Int64)), .second, .val (.int (0 : Int32))] [(.int (0 : Int32)), (.ref ea)])) _
    refine X3.laload hx (j := (0 : Int32)) (v := (.long x0)) (by rw [e3]; exact Ar4.1) (State.isArrayOf_alike hZ.alike Ar4.2.1) Ar4.2.2 hin4 hat4 (g := (mkF m 20 #[.val (.ref oa), .val (.long qs), .second, .val (.long (0 : Int64)), .second, .val (.int (0 : Int32))] [(.int (0 : Int32)), (.ref ea)])) rfl rfl (hb hby d3_20) _ ?_
    show Steps p.tables e below (T3.setTop (mkF m 21 #[.val (.ref oa), .val (.long qs), .second, .val (.long (0 : Int64)), .second, .val (.int (0 : Int32))] [(.long x0)])) _
    refine XS.lloadN X3.here hx rfl (hb hby d3_21) rfl ?_
    show Steps p.tables e below (T3.setTop (mkF m 22 #[.val (.ref oa), .val (.long qs), .second, .val (.long (0 : Int64)), .second, .val (.int (0 : Int32))] [(.long qs), (.long x0)])) _
    refine XS.lcmp X3.here hx rfl (hb hby d3_22) rfl ?_
    exact kt
  by_cases hc23_5 : qs.toInt < x0.toInt
  · obtain ⟨fs, hr, hrun, hended, hW, hsame⟩ := X3.leave (v := some (.long (0 : Int64))) (fun h => by rw [Bd.returns] at h; cases h)
    refine ⟨_, _, pre6 _ ?_, hrun, hended, _, _, rfl, ?_, ⟨_, rfl⟩, hW, hsame.mono (by decide) (by decide)⟩
    · show Steps p.tables e below (T3.setTop (mkF m 23 #[.val (.ref oa), .val (.long qs), .second, .val (.long (0 : Int64)), .second, .val (.int (0 : Int32))] [(.int (lcmpW x0 qs))])) _
      refine XS.ifYes X3.here hx rfl (pc0 := 23) (pc' := 42) rfl (hb hby d3_23) rfl (own_if (own_tgtL (x := x0) (y := qs) rfl rfl hc23_5).1) (by decide) (by decide) ?_
      show Steps p.tables e below (T3.setTop (mkF m 42 #[.val (.ref oa), .val (.long qs), .second, .val (.long (0 : Int64)), .second, .val (.int (0 : Int32))] [])) _
      refine XS.lloadN X3.here hx rfl (hb hby d3_42) rfl ?_
      show Steps p.tables e below (T3.setTop (mkF m 43 #[.val (.ref oa), .val (.long qs), .second, .val (.long (0 : Int64)), .second, .val (.int (0 : Int32))] [(.long (0 : Int64))])) _
      jvm_step X3.here [X3.here.top, hx, (hb hby d3_43), X3.method', Bd.returns, narrow]
      first | (intro acts; rw [hr _ acts rfl rfl rfl]) | rw [hr _ _ rfl rfl rfl]
      exact Steps.refl _
    · show Q_h1 Z oa qs ea ca kE kC x0 c0 h0 n0 _ T3.heap _
      rw [e3]
      exact ⟨_, rfl, by have iv : ((0 : Int64)).toInt = (0 : Int) := (by decide); rw [own_fn (x := x0.toInt) (by omega)]; omega, N0, rfl⟩
  · obtain ⟨T7, X7, e7, st7⟩ := getF X3 hx hZ hown (host := "") (Or.inl (hw _ (List.mem_of_getElem? (i := 12) rfl))) Via.refl e3 F1 (g := (mkF m 28 #[.val (.ref oa), .val (.long qs), .second, .val (.long (0 : Int64)), .second, .val (.int (0 : Int32))] [(.ref oa), (.long (0 : Int64))])) rfl rfl (hb hby d3_28)
    obtain ⟨cl8, Ar8, q8, S8, M8, H8, G8⟩ := id V1
    have hin8 : ¬ ((0 : Int32) < 0 ∨ cl8.slots.size ≤ ((0 : Int32)).toNatClampNeg) := inb_of S8 ⟨by decide, by decide⟩
    have hat8 : cl8.slots[((0 : Int32)).toNatClampNeg]? = some (.long c0) := Has.at H8 hin8 rfl
    have pre10 : ∀ t, Steps p.tables e below (T7.setTop (mkF m 36 #[.val (.ref oa), .val (.long qs), .second, .val (.long ((0 : Int64) + c0)), .second, .val (.int (0 : Int32))] [])) t → Steps p.tables e below (s₁.setTop (entryFrame m #[(.ref oa), (.long qs)] 6)) t := fun t kt => by
      refine pre6 _ ?_
      show Steps p.tables e below (T3.setTop (mkF m 23 #[.val (.ref oa), .val (.long qs), .second, .val (.long (0 : Int64)), .second, .val (.int (0 : Int32))] [(.int (lcmpW x0 qs))])) _
      refine XS.ifNo X3.here hx rfl (hb hby d3_23) rfl (own_if (own_fgtL (x := x0) (y := qs) rfl rfl hc23_5).1) ?_
      show Steps p.tables e below (T3.setTop (mkF m 26 #[.val (.ref oa), .val (.long qs), .second, .val (.long (0 : Int64)), .second, .val (.int (0 : Int32))] [])) _
      refine XS.lloadN X3.here hx rfl (hb hby d3_26) rfl ?_
      show Steps p.tables e below (T3.setTop (mkF m 27 #[.val (.ref oa), .val (.long qs), .second, .val (.long (0 : Int64)), .second, .val (.int (0 : Int32))] [(.long (0 : Int64))])) _
      refine XS.aloadN X3.here hx rfl (hb hby d3_27) rfl rfl ?_
      show Steps p.tables e below (T3.setTop (mkF m 28 #[.val (.ref oa), .val (.long qs), .second, .val (.long (0 : Int64)), .second, .val (.int (0 : Int32))] [(.ref oa), (.long (0 : Int64))])) _
      refine st7 _ ?_
      show Steps p.tables e below (T7.setTop (mkF m 31 #[.val (.ref oa), .val (.long qs), .second, .val (.long (0 : Int64)), .second, .val (.int (0 : Int32))] [(.ref ca), (.long (0 : Int64))])) _
      refine XS.iload X7.here hx rfl (hb hby d3_31) rfl ?_
      show Steps p.tables e below (T7.setTop (mkF m 33 #[.val (.ref oa), .val (.long qs), .second, .val (.long (0 : Int64)), .second, .val (.int (0 : Int32))] [(.int (0 : Int32)), (.ref ca), (.long (0 : Int64))])) _
      refine X7.laload hx (j := (0 : Int32)) (v := (.long c0)) (by rw [e7]; exact Ar8.1) (State.isArrayOf_alike hZ.alike Ar8.2.1) Ar8.2.2 hin8 hat8 (g := (mkF m 33 #[.val (.ref oa), .val (.long qs), .second, .val (.long (0 : Int64)), .second, .val (.int (0 : Int32))] [(.int (0 : Int32)), (.ref ca), (.long (0 : Int64))])) rfl rfl (hb hby d3_33) _ ?_
      show Steps p.tables e below (T7.setTop (mkF m 34 #[.val (.ref oa), .val (.long qs), .second, .val (.long (0 : Int64)), .second, .val (.int (0 : Int32))] [(.long c0), (.long (0 : Int64))])) _
      refine XS.ladd X7.here hx rfl (hb hby d3_34) rfl ?_
      show Steps p.tables e below (T7.setTop (mkF m 35 #[.val (.ref oa), .val (.long qs), .second, .val (.long (0 : Int64)), .second, .val (.int (0 : Int32))] [(.long ((0 : Int64) + c0))])) _
      refine XS.lstoreN X7.here hx rfl (hb hby d3_35) rfl (l' := #[.val (.ref oa), .val (.long qs), .second, .val (.long ((0 : Int64) + c0)), .second, .val (.int (0 : Int32))]) rfl ?_
      exact kt
    obtain ⟨hd0_9, hhd0_9⟩ : ∃ z : Int64, z = ((0 : Int64) + c0) := ⟨_, rfl⟩
    have ihd0_9 : hd0_9.toInt = c0.toInt := by rw [hhd0_9]; have := rng64 c0; have : ((((0 : Int64) + c0)).toInt - ((0 : Int) + c0.toInt)) % 18446744073709551616 = 0 := c_ladd (0 : Int64) c0; have := rng64 ((0 : Int64) + c0); omega
    have pre11 : ∀ t, Steps p.tables e below (T7.setTop (mkF m 36 #[.val (.ref oa), .val (.long qs), .second, .val (.long hd0_9), .second, .val (.int (0 : Int32))] [])) t → Steps p.tables e below (s₁.setTop (entryFrame m #[(.ref oa), (.long qs)] 6)) t := by rw [hhd0_9]; exact pre10
    obtain ⟨T12, X12, e12, st12⟩ := getF X7 hx hZ hown (host := "") (Or.inl (hw _ (List.mem_of_getElem? (i := 19) rfl))) Via.refl e7 F2 (g := (mkF m 8 #[.val (.ref oa), .val (.long qs), .second, .val (.long hd0_9), .second, .val (.int (1 : Int32))] [(.ref oa), (.int (1 : Int32))])) rfl rfl (hb hby d3_8)
    have hc11_13 : ¬ ((1 : Int) < (1 : Int)) := by decide
    obtain ⟨fs, hr, hrun, hended, hW, hsame⟩ := X12.leave (v := some (.long hd0_9)) (fun h => by rw [Bd.returns] at h; cases h)
    refine ⟨_, _, pre11 _ ?_, hrun, hended, _, _, rfl, ?_, ⟨_, rfl⟩, hW, hsame.mono (by decide) (by decide)⟩
    · show Steps p.tables e below (T7.setTop (mkF m 36 #[.val (.ref oa), .val (.long qs), .second, .val (.long hd0_9), .second, .val (.int (0 : Int32))] [])) _
      refine XS.iinc X7.here hx rfl (hb hby d3_36) rfl (l' := #[.val (.ref oa), .val (.long qs), .second, .val (.long hd0_9), .second, .val (.int (1 : Int32))]) rfl ?_
      show Steps p.tables e below (T7.setTop (mkF m 39 #[.val (.ref oa), .val (.long qs), .second, .val (.long hd0_9), .second, .val (.int (1 : Int32))] [])) _
      refine XS.goto X7.here hx rfl (pc0 := 39) (pc' := 5) rfl (hb hby d3_39) (by decide) (by decide) ?_
      show Steps p.tables e below (T7.setTop (mkF m 5 #[.val (.ref oa), .val (.long qs), .second, .val (.long hd0_9), .second, .val (.int (1 : Int32))] [])) _
      refine XS.iload X7.here hx rfl (hb hby d3_5) rfl ?_
      show Steps p.tables e below (T7.setTop (mkF m 7 #[.val (.ref oa), .val (.long qs), .second, .val (.long hd0_9), .second, .val (.int (1 : Int32))] [(.int (1 : Int32))])) _
      refine XS.aloadN X7.here hx rfl (hb hby d3_7) rfl rfl ?_
      show Steps p.tables e below (T7.setTop (mkF m 8 #[.val (.ref oa), .val (.long qs), .second, .val (.long hd0_9), .second, .val (.int (1 : Int32))] [(.ref oa), (.int (1 : Int32))])) _
      refine st12 _ ?_
      show Steps p.tables e below (T12.setTop (mkF m 11 #[.val (.ref oa), .val (.long qs), .second, .val (.long hd0_9), .second, .val (.int (1 : Int32))] [(.int (1 : Int32)), (.int (1 : Int32))])) _
      refine XS.icmpYes X12.here hx rfl (pc0 := 11) (pc' := 42) rfl (hb hby d3_11) rfl (own_flt (a := (1 : Int32)) (b := (1 : Int32)) (by decide) (by decide) hc11_13).2.1 (by decide) (by decide) ?_
      show Steps p.tables e below (T12.setTop (mkF m 42 #[.val (.ref oa), .val (.long qs), .second, .val (.long hd0_9), .second, .val (.int (1 : Int32))] [])) _
      refine XS.lloadN X12.here hx rfl (hb hby d3_42) rfl ?_
      show Steps p.tables e below (T12.setTop (mkF m 43 #[.val (.ref oa), .val (.long qs), .second, .val (.long hd0_9), .second, .val (.int (1 : Int32))] [(.long hd0_9)])) _
      jvm_step X12.here [X12.here.top, hx, (hb hby d3_43), X12.method', Bd.returns, narrow]
      first | (intro acts; rw [hr _ acts rfl rfl rfl]) | rw [hr _ _ rfl rfl rfl]
      exact Steps.refl _
    · show Q_h1 Z oa qs ea ca kE kC x0 c0 h0 n0 _ T12.heap _
      rw [e12]
      exact ⟨_, rfl, by rw [own_fp (x := x0.toInt) (by omega)]; omega, N0, rfl⟩
theorem ef_rm_h2 (m : MethodId) (x0 : Addr) (x1 : Int64) : entryFrame m #[(.ref x0), (.long x1)] 6 = mkF m 0 #[.val (.ref x0), .val (.long x1), .second, .unset, .unset, .unset] [] := by first | (simp [entryFrame, mkF, argsToLocals, Value.category]; done) | rfl
def Q_h2 (Z : State) (oa : Addr) (qs : Int64) (ea : Addr) (ca : Addr) (kE : ClassId) (kC : ClassId) (x0 : Int64) (x1 : Int64) (c0 : Int64) (c1 : Int64) (h0 : Heap) (n0 : Nat) (v : Option Value) (h : Heap) (L : List Loc) : Prop := ∃ z : Int64, v = some (.long z) ∧ (z.toInt = own_f x0.toInt qs.toInt c0.toInt + own_f x1.toInt qs.toInt c1.toInt) ∧ Fr n0 L ∧ h = h0
set_option maxRecDepth 65536 in
set_option maxHeartbeats 40000000 in
theorem rm_h2 (l : Launch) (Z : State) (a0 : Array Value) (hw : ∀ d ∈ tables_1, d.before a0 Z = true) (ws : List Jvm.Cond) (oa : Addr) (qs : Int64) (ea : Addr) (ca : Addr) (kE : ClassId) (kC : ClassId) (x0 : Int64) (x1 : Int64) (c0 : Int64) (c1 : Int64) (h0 : Heap) (n0 : Nat) (Z0 : n0 ≤ h0.size) (Ea : Exa Z h0 oa "com/example/foreslot/foreslot/CountsByEnd") (F0 : Fld Z h0 oa "com/example/foreslot/foreslot/CountsByEnd" "ends" "[J" (.ref ea)) (F1 : Fld Z h0 oa "com/example/foreslot/foreslot/CountsByEnd" "counts" "[J" (.ref ca)) (F2 : Fld Z h0 oa "com/example/foreslot/foreslot/CountsByEnd" "size" "I" (.int (2 : Int32))) (V0 : Arv Z h0 ea kE .long (16 : Int32) [(.long x0), (.long x1), (.long (0 : Int64)), (.long (0 : Int64))] (.long (0 : Int64))) (V1 : Arv Z h0 ca kC .long (16 : Int32) [(.long c0), (.long c1), (.long (0 : Int64)), (.long (0 : Int64))] (.long (0 : Int64))) (os0 : x0.toInt < x1.toInt) (kc0 : 1 ≤ c0.toInt) (kc1 : 1 ≤ c1.toInt) (kt : c0.toInt + c1.toInt ≤ 100000) :
    MetFree l (⟨"com/example/foreslot/foreslot/CountsByEnd", "heldUntilAtLatest", "(J)J"⟩ : MethodName) (head1 (Jvm.Cond.code (⟨"com/example/foreslot/foreslot/CountsByEnd", "heldUntilAtLatest", "(J)J"⟩ : MethodName) prog_20_method_4_code 6 (some .long) :: ws) ({ frames := 0, cells := 0, slots := 0, locals := 0 } : Room)) (fun a U => a = #[(.ref oa), (.long qs)] ∧ Z.Warmed39 U.vm ∧ U.heap = h0) (fun _ _ _ _ _ => True) (fun _ U o U' => ∃ v L, o = .returned v ∧ Q_h2 Z oa qs ea ca kE kC x0 x1 c0 c1 h0 n0 v U'.heap L ∧ FrameEnd U o U' L ({ frames := 0, cells := 0, slots := 0, locals := 0 } : Room).cells ({ frames := 0, cells := 0, slots := 0, locals := 0 } : Room).slots) := by
  refine MetFree.of_bodySF (plainFor_of_name pn_1) hisR ?_
  intro p e s m args below meth c s₁ Bd hml0 hP hK
  obtain ⟨rfl, hZ, hh⟩ := hP
  have hx := Bd.exec
  have hby := Bd.bytes
  have hml : c.maxLocals = 6 := hml0
  have hown : s.vm.findClass "com/example/foreslot/foreslot/CountsByEnd" = some m.cls := findClass_of_methodNamed Bd.named
  have hnm := (name_of_methodNamed Bd.named Bd.method).1
  have X0 : Stand p l e ({ frames := 0, cells := 0, slots := 0, locals := 0 } : Room) s m #[(.ref oa), (.long qs)] below meth c s₁ [] 0 0 := Stand.of_body Bd
  have e0 : s₁.heap = h0 := by rw [← hh, Bd.state]; rfl
  have N0 := Fr.nil n0
  have pre0 : ∀ t, Steps p.tables e below (s₁.setTop (mkF m 0 #[.val (.ref oa), .val (.long qs), .second, .unset, .unset, .unset] [])) t → Steps p.tables e below (s₁.setTop (entryFrame m #[(.ref oa), (.long qs)] 6)) t := fun t k => castTop (ef_rm_h2 m oa qs) k
  obtain ⟨T1, X1, e1, st1⟩ := getF X0 hx hZ hown (host := "") (Or.inl (hw _ (List.mem_of_getElem? (i := 19) rfl))) Via.refl e0 F2 (g := (mkF m 8 #[.val (.ref oa), .val (.long qs), .second, .val (.long (0 : Int64)), .second, .val (.int (0 : Int32))] [(.ref oa), (.int (0 : Int32))])) rfl rfl (hb hby d3_8)
  have hc11_2 : (0 : Int) < (2 : Int) := by decide
  obtain ⟨T3, X3, e3, st3⟩ := getF X1 hx hZ hown (host := "") (Or.inl (hw _ (List.mem_of_getElem? (i := 10) rfl))) Via.refl e1 F0 (g := (mkF m 15 #[.val (.ref oa), .val (.long qs), .second, .val (.long (0 : Int64)), .second, .val (.int (0 : Int32))] [(.ref oa)])) rfl rfl (hb hby d3_15)
  obtain ⟨cl4, Ar4, q4, S4, M4, H4, G4⟩ := id V0
  have hin4 : ¬ ((0 : Int32) < 0 ∨ cl4.slots.size ≤ ((0 : Int32)).toNatClampNeg) := inb_of S4 ⟨by decide, by decide⟩
  have hat4 : cl4.slots[((0 : Int32)).toNatClampNeg]? = some (.long x0) := Has.at H4 hin4 rfl
  have pre6 : ∀ t, Steps p.tables e below (T3.setTop (mkF m 23 #[.val (.ref oa), .val (.long qs), .second, .val (.long (0 : Int64)), .second, .val (.int (0 : Int32))] [(.int (lcmpW x0 qs))])) t → Steps p.tables e below (s₁.setTop (entryFrame m #[(.ref oa), (.long qs)] 6)) t := fun t kt => by
    refine pre0 _ ?_
    show Steps p.tables e below (s₁.setTop (mkF m 0 #[.val (.ref oa), .val (.long qs), .second, .unset, .unset, .unset] [])) _
    refine XS.lconst X0.here hx rfl (hb hby d3_0) ?_
    show Steps p.tables e below (s₁.setTop (mkF m 1 #[.val (.ref oa), .val (.long qs), .second, .unset, .unset, .unset] [(.long (0 : Int64))])) _
    refine XS.lstoreN X0.here hx rfl (hb hby d3_1) rfl (l' := #[.val (.ref oa), .val (.long qs), .second, .val (.long (0 : Int64)), .second, .unset]) rfl ?_
    show Steps p.tables e below (s₁.setTop (mkF m 2 #[.val (.ref oa), .val (.long qs), .second, .val (.long (0 : Int64)), .second, .unset] [])) _
    refine XS.iconst X0.here hx rfl (hb hby d3_2) ?_
    show Steps p.tables e below (s₁.setTop (mkF m 3 #[.val (.ref oa), .val (.long qs), .second, .val (.long (0 : Int64)), .second, .unset] [(.int (0 : Int32))])) _
    refine XS.istore X0.here hx rfl (hb hby d3_3) rfl (l' := #[.val (.ref oa), .val (.long qs), .second, .val (.long (0 : Int64)), .second, .val (.int (0 : Int32))]) rfl ?_
    show Steps p.tables e below (s₁.setTop (mkF m 5 #[.val (.ref oa), .val (.long qs), .second, .val (.long (0 : Int64)), .second, .val (.int (0 : Int32))] [])) _
    refine XS.iload X0.here hx rfl (hb hby d3_5) rfl ?_
    show Steps p.tables e below (s₁.setTop (mkF m 7 #[.val (.ref oa), .val (.long qs), .second, .val (.long (0 : Int64)), .second, .val (.int (0 : Int32))] [(.int (0 : Int32))])) _
    refine XS.aloadN X0.here hx rfl (hb hby d3_7) rfl rfl ?_
    show Steps p.tables e below (s₁.setTop (mkF m 8 #[.val (.ref oa), .val (.long qs), .second, .val (.long (0 : Int64)), .second, .val (.int (0 : Int32))] [(.ref oa), (.int (0 : Int32))])) _
    refine st1 _ ?_
    show Steps p.tables e below (T1.setTop (mkF m 11 #[.val (.ref oa), .val (.long qs), .second, .val (.long (0 : Int64)), .second, .val (.int (0 : Int32))] [(.int (2 : Int32)), (.int (0 : Int32))])) _
    refine XS.icmpNo X1.here hx rfl (hb hby d3_11) rfl (own_tlt (a := (0 : Int32)) (b := (2 : Int32)) (by decide) (by decide) hc11_2).2.1 ?_
    show Steps p.tables e below (T1.setTop (mkF m 14 #[.val (.ref oa), .val (.long qs), .second, .val (.long (0 : Int64)), .second, .val (.int (0 : Int32))] [])) _
    refine XS.aloadN X1.here hx rfl (hb hby d3_14) rfl rfl ?_
    show Steps p.tables e below (T1.setTop (mkF m 15 #[.val (.ref oa), .val (.long qs), .second, .val (.long (0 : Int64)), .second, .val (.int (0 : Int32))] [(.ref oa)])) _
    refine st3 _ ?_
    show Steps p.tables e below (T3.setTop (mkF m 18 #[.val (.ref oa), .val (.long qs), .second, .val (.long (0 : Int64)), .second, .val (.int (0 : Int32))] [(.ref ea)])) _
    refine XS.iload X3.here hx rfl (hb hby d3_18) rfl ?_
    show Steps p.tables e below (T3.setTop (mkF m 20 #[.val (.ref oa), .val (.long qs), .second, .val (.long (0 : Int64)), .second, .val (.int (0 : Int32))] [(.int (0 : Int32)), (.ref ea)])) _
    refine X3.laload hx (j := (0 : Int32)) (v := (.long x0)) (by rw [e3]; exact Ar4.1) (State.isArrayOf_alike hZ.alike Ar4.2.1) Ar4.2.2 hin4 hat4 (g := (mkF m 20 #[.val (.ref oa), .val (.long qs), .second, .val (.long (0 : Int64)), .second, .val (.int (0 : Int32))] [(.int (0 : Int32)), (.ref ea)])) rfl rfl (hb hby d3_20) _ ?_
    show Steps p.tables e below (T3.setTop (mkF m 21 #[.val (.ref oa), .val (.long qs), .second, .val (.long (0 : Int64)), .second, .val (.int (0 : Int32))] [(.long x0)])) _
    refine XS.lloadN X3.here hx rfl (hb hby d3_21) rfl ?_
    show Steps p.tables e below (T3.setTop (mkF m 22 #[.val (.ref oa), .val (.long qs), .second, .val (.long (0 : Int64)), .second, .val (.int (0 : Int32))] [(.long qs), (.long x0)])) _
    refine XS.lcmp X3.here hx rfl (hb hby d3_22) rfl ?_
    exact kt
  by_cases hc23_5 : qs.toInt < x0.toInt
  · obtain ⟨fs, hr, hrun, hended, hW, hsame⟩ := X3.leave (v := some (.long (0 : Int64))) (fun h => by rw [Bd.returns] at h; cases h)
    refine ⟨_, _, pre6 _ ?_, hrun, hended, _, _, rfl, ?_, ⟨_, rfl⟩, hW, hsame.mono (by decide) (by decide)⟩
    · show Steps p.tables e below (T3.setTop (mkF m 23 #[.val (.ref oa), .val (.long qs), .second, .val (.long (0 : Int64)), .second, .val (.int (0 : Int32))] [(.int (lcmpW x0 qs))])) _
      refine XS.ifYes X3.here hx rfl (pc0 := 23) (pc' := 42) rfl (hb hby d3_23) rfl (own_if (own_tgtL (x := x0) (y := qs) rfl rfl hc23_5).1) (by decide) (by decide) ?_
      show Steps p.tables e below (T3.setTop (mkF m 42 #[.val (.ref oa), .val (.long qs), .second, .val (.long (0 : Int64)), .second, .val (.int (0 : Int32))] [])) _
      refine XS.lloadN X3.here hx rfl (hb hby d3_42) rfl ?_
      show Steps p.tables e below (T3.setTop (mkF m 43 #[.val (.ref oa), .val (.long qs), .second, .val (.long (0 : Int64)), .second, .val (.int (0 : Int32))] [(.long (0 : Int64))])) _
      jvm_step X3.here [X3.here.top, hx, (hb hby d3_43), X3.method', Bd.returns, narrow]
      first | (intro acts; rw [hr _ acts rfl rfl rfl]) | rw [hr _ _ rfl rfl rfl]
      exact Steps.refl _
    · show Q_h2 Z oa qs ea ca kE kC x0 x1 c0 c1 h0 n0 _ T3.heap _
      rw [e3]
      exact ⟨_, rfl, by have iv : ((0 : Int64)).toInt = (0 : Int) := (by decide); rw [own_fn (x := x0.toInt) (by omega)]; rw [own_fn (x := x1.toInt) (by omega)]; omega, N0, rfl⟩
  · obtain ⟨T7, X7, e7, st7⟩ := getF X3 hx hZ hown (host := "") (Or.inl (hw _ (List.mem_of_getElem? (i := 12) rfl))) Via.refl e3 F1 (g := (mkF m 28 #[.val (.ref oa), .val (.long qs), .second, .val (.long (0 : Int64)), .second, .val (.int (0 : Int32))] [(.ref oa), (.long (0 : Int64))])) rfl rfl (hb hby d3_28)
    obtain ⟨cl8, Ar8, q8, S8, M8, H8, G8⟩ := id V1
    have hin8 : ¬ ((0 : Int32) < 0 ∨ cl8.slots.size ≤ ((0 : Int32)).toNatClampNeg) := inb_of S8 ⟨by decide, by decide⟩
    have hat8 : cl8.slots[((0 : Int32)).toNatClampNeg]? = some (.long c0) := Has.at H8 hin8 rfl
    have pre10 : ∀ t, Steps p.tables e below (T7.setTop (mkF m 36 #[.val (.ref oa), .val (.long qs), .second, .val (.long ((0 : Int64) + c0)), .second, .val (.int (0 : Int32))] [])) t → Steps p.tables e below (s₁.setTop (entryFrame m #[(.ref oa), (.long qs)] 6)) t := fun t kt => by
      refine pre6 _ ?_
      show Steps p.tables e below (T3.setTop (mkF m 23 #[.val (.ref oa), .val (.long qs), .second, .val (.long (0 : Int64)), .second, .val (.int (0 : Int32))] [(.int (lcmpW x0 qs))])) _
      refine XS.ifNo X3.here hx rfl (hb hby d3_23) rfl (own_if (own_fgtL (x := x0) (y := qs) rfl rfl hc23_5).1) ?_
      show Steps p.tables e below (T3.setTop (mkF m 26 #[.val (.ref oa), .val (.long qs), .second, .val (.long (0 : Int64)), .second, .val (.int (0 : Int32))] [])) _
      refine XS.lloadN X3.here hx rfl (hb hby d3_26) rfl ?_
      show Steps p.tables e below (T3.setTop (mkF m 27 #[.val (.ref oa), .val (.long qs), .second, .val (.long (0 : Int64)), .second, .val (.int (0 : Int32))] [(.long (0 : Int64))])) _
      refine XS.aloadN X3.here hx rfl (hb hby d3_27) rfl rfl ?_
      show Steps p.tables e below (T3.setTop (mkF m 28 #[.val (.ref oa), .val (.long qs), .second, .val (.long (0 : Int64)), .second, .val (.int (0 : Int32))] [(.ref oa), (.long (0 : Int64))])) _
      refine st7 _ ?_
      show Steps p.tables e below (T7.setTop (mkF m 31 #[.val (.ref oa), .val (.long qs), .second, .val (.long (0 : Int64)), .second, .val (.int (0 : Int32))] [(.ref ca), (.long (0 : Int64))])) _
      refine XS.iload X7.here hx rfl (hb hby d3_31) rfl ?_
      show Steps p.tables e below (T7.setTop (mkF m 33 #[.val (.ref oa), .val (.long qs), .second, .val (.long (0 : Int64)), .second, .val (.int (0 : Int32))] [(.int (0 : Int32)), (.ref ca), (.long (0 : Int64))])) _
      refine X7.laload hx (j := (0 : Int32)) (v := (.long c0)) (by rw [e7]; exact Ar8.1) (State.isArrayOf_alike hZ.alike Ar8.2.1) Ar8.2.2 hin8 hat8 (g := (mkF m 33 #[.val (.ref oa), .val (.long qs), .second, .val (.long (0 : Int64)), .second, .val (.int (0 : Int32))] [(.int (0 : Int32)), (.ref ca), (.long (0 : Int64))])) rfl rfl (hb hby d3_33) _ ?_
      show Steps p.tables e below (T7.setTop (mkF m 34 #[.val (.ref oa), .val (.long qs), .second, .val (.long (0 : Int64)), .second, .val (.int (0 : Int32))] [(.long c0), (.long (0 : Int64))])) _
      refine XS.ladd X7.here hx rfl (hb hby d3_34) rfl ?_
      show Steps p.tables e below (T7.setTop (mkF m 35 #[.val (.ref oa), .val (.long qs), .second, .val (.long (0 : Int64)), .second, .val (.int (0 : Int32))] [(.long ((0 : Int64) + c0))])) _
      refine XS.lstoreN X7.here hx rfl (hb hby d3_35) rfl (l' := #[.val (.ref oa), .val (.long qs), .second, .val (.long ((0 : Int64) + c0)), .second, .val (.int (0 : Int32))]) rfl ?_
      exact kt
    obtain ⟨hd0_9, hhd0_9⟩ : ∃ z : Int64, z = ((0 : Int64) + c0) := ⟨_, rfl⟩
    have ihd0_9 : hd0_9.toInt = c0.toInt := by rw [hhd0_9]; have := rng64 c0; have : ((((0 : Int64) + c0)).toInt - ((0 : Int) + c0.toInt)) % 18446744073709551616 = 0 := c_ladd (0 : Int64) c0; have := rng64 ((0 : Int64) + c0); omega
    have pre11 : ∀ t, Steps p.tables e below (T7.setTop (mkF m 36 #[.val (.ref oa), .val (.long qs), .second, .val (.long hd0_9), .second, .val (.int (0 : Int32))] [])) t → Steps p.tables e below (s₁.setTop (entryFrame m #[(.ref oa), (.long qs)] 6)) t := by rw [hhd0_9]; exact pre10
    obtain ⟨T12, X12, e12, st12⟩ := getF X7 hx hZ hown (host := "") (Or.inl (hw _ (List.mem_of_getElem? (i := 19) rfl))) Via.refl e7 F2 (g := (mkF m 8 #[.val (.ref oa), .val (.long qs), .second, .val (.long hd0_9), .second, .val (.int (1 : Int32))] [(.ref oa), (.int (1 : Int32))])) rfl rfl (hb hby d3_8)
    have hc11_13 : (1 : Int) < (2 : Int) := by decide
    obtain ⟨T14, X14, e14, st14⟩ := getF X12 hx hZ hown (host := "") (Or.inl (hw _ (List.mem_of_getElem? (i := 10) rfl))) Via.refl e12 F0 (g := (mkF m 15 #[.val (.ref oa), .val (.long qs), .second, .val (.long hd0_9), .second, .val (.int (1 : Int32))] [(.ref oa)])) rfl rfl (hb hby d3_15)
    obtain ⟨cl15, Ar15, q15, S15, M15, H15, G15⟩ := id V0
    have hin15 : ¬ ((1 : Int32) < 0 ∨ cl15.slots.size ≤ ((1 : Int32)).toNatClampNeg) := inb_of S15 ⟨by decide, by decide⟩
    have hat15 : cl15.slots[((1 : Int32)).toNatClampNeg]? = some (.long x1) := Has.at H15 hin15 rfl
    have pre17 : ∀ t, Steps p.tables e below (T14.setTop (mkF m 23 #[.val (.ref oa), .val (.long qs), .second, .val (.long hd0_9), .second, .val (.int (1 : Int32))] [(.int (lcmpW x1 qs))])) t → Steps p.tables e below (s₁.setTop (entryFrame m #[(.ref oa), (.long qs)] 6)) t := fun t kt => by
      refine pre11 _ ?_
      show Steps p.tables e below (T7.setTop (mkF m 36 #[.val (.ref oa), .val (.long qs), .second, .val (.long hd0_9), .second, .val (.int (0 : Int32))] [])) _
      refine XS.iinc X7.here hx rfl (hb hby d3_36) rfl (l' := #[.val (.ref oa), .val (.long qs), .second, .val (.long hd0_9), .second, .val (.int (1 : Int32))]) rfl ?_
      show Steps p.tables e below (T7.setTop (mkF m 39 #[.val (.ref oa), .val (.long qs), .second, .val (.long hd0_9), .second, .val (.int (1 : Int32))] [])) _
      refine XS.goto X7.here hx rfl (pc0 := 39) (pc' := 5) rfl (hb hby d3_39) (by decide) (by decide) ?_
      show Steps p.tables e below (T7.setTop (mkF m 5 #[.val (.ref oa), .val (.long qs), .second, .val (.long hd0_9), .second, .val (.int (1 : Int32))] [])) _
      refine XS.iload X7.here hx rfl (hb hby d3_5) rfl ?_
      show Steps p.tables e below (T7.setTop (mkF m 7 #[.val (.ref oa), .val (.long qs), .second, .val (.long hd0_9), .second, .val (.int (1 : Int32))] [(.int (1 : Int32))])) _
      refine XS.aloadN X7.here hx rfl (hb hby d3_7) rfl rfl ?_
      show Steps p.tables e below (T7.setTop (mkF m 8 #[.val (.ref oa), .val (.long qs), .second, .val (.long hd0_9), .second, .val (.int (1 : Int32))] [(.ref oa), (.int (1 : Int32))])) _
      refine st12 _ ?_
      show Steps p.tables e below (T12.setTop (mkF m 11 #[.val (.ref oa), .val (.long qs), .second, .val (.long hd0_9), .second, .val (.int (1 : Int32))] [(.int (2 : Int32)), (.int (1 : Int32))])) _
      refine XS.icmpNo X12.here hx rfl (hb hby d3_11) rfl (own_tlt (a := (1 : Int32)) (b := (2 : Int32)) (by decide) (by decide) hc11_13).2.1 ?_
      show Steps p.tables e below (T12.setTop (mkF m 14 #[.val (.ref oa), .val (.long qs), .second, .val (.long hd0_9), .second, .val (.int (1 : Int32))] [])) _
      refine XS.aloadN X12.here hx rfl (hb hby d3_14) rfl rfl ?_
      show Steps p.tables e below (T12.setTop (mkF m 15 #[.val (.ref oa), .val (.long qs), .second, .val (.long hd0_9), .second, .val (.int (1 : Int32))] [(.ref oa)])) _
      refine st14 _ ?_
      show Steps p.tables e below (T14.setTop (mkF m 18 #[.val (.ref oa), .val (.long qs), .second, .val (.long hd0_9), .second, .val (.int (1 : Int32))] [(.ref ea)])) _
      refine XS.iload X14.here hx rfl (hb hby d3_18) rfl ?_
      show Steps p.tables e below (T14.setTop (mkF m 20 #[.val (.ref oa), .val (.long qs), .second, .val (.long hd0_9), .second, .val (.int (1 : Int32))] [(.int (1 : Int32)), (.ref ea)])) _
      refine X14.laload hx (j := (1 : Int32)) (v := (.long x1)) (by rw [e14]; exact Ar15.1) (State.isArrayOf_alike hZ.alike Ar15.2.1) Ar15.2.2 hin15 hat15 (g := (mkF m 20 #[.val (.ref oa), .val (.long qs), .second, .val (.long hd0_9), .second, .val (.int (1 : Int32))] [(.int (1 : Int32)), (.ref ea)])) rfl rfl (hb hby d3_20) _ ?_
      show Steps p.tables e below (T14.setTop (mkF m 21 #[.val (.ref oa), .val (.long qs), .second, .val (.long hd0_9), .second, .val (.int (1 : Int32))] [(.long x1)])) _
      refine XS.lloadN X14.here hx rfl (hb hby d3_21) rfl ?_
      show Steps p.tables e below (T14.setTop (mkF m 22 #[.val (.ref oa), .val (.long qs), .second, .val (.long hd0_9), .second, .val (.int (1 : Int32))] [(.long qs), (.long x1)])) _
      refine XS.lcmp X14.here hx rfl (hb hby d3_22) rfl ?_
      exact kt
    by_cases hc23_16 : qs.toInt < x1.toInt
    · obtain ⟨fs, hr, hrun, hended, hW, hsame⟩ := X14.leave (v := some (.long hd0_9)) (fun h => by rw [Bd.returns] at h; cases h)
      refine ⟨_, _, pre17 _ ?_, hrun, hended, _, _, rfl, ?_, ⟨_, rfl⟩, hW, hsame.mono (by decide) (by decide)⟩
      · show Steps p.tables e below (T14.setTop (mkF m 23 #[.val (.ref oa), .val (.long qs), .second, .val (.long hd0_9), .second, .val (.int (1 : Int32))] [(.int (lcmpW x1 qs))])) _
        refine XS.ifYes X14.here hx rfl (pc0 := 23) (pc' := 42) rfl (hb hby d3_23) rfl (own_if (own_tgtL (x := x1) (y := qs) rfl rfl hc23_16).1) (by decide) (by decide) ?_
        show Steps p.tables e below (T14.setTop (mkF m 42 #[.val (.ref oa), .val (.long qs), .second, .val (.long hd0_9), .second, .val (.int (1 : Int32))] [])) _
        refine XS.lloadN X14.here hx rfl (hb hby d3_42) rfl ?_
        show Steps p.tables e below (T14.setTop (mkF m 43 #[.val (.ref oa), .val (.long qs), .second, .val (.long hd0_9), .second, .val (.int (1 : Int32))] [(.long hd0_9)])) _
        jvm_step X14.here [X14.here.top, hx, (hb hby d3_43), X14.method', Bd.returns, narrow]
        first | (intro acts; rw [hr _ acts rfl rfl rfl]) | rw [hr _ _ rfl rfl rfl]
        exact Steps.refl _
      · show Q_h2 Z oa qs ea ca kE kC x0 x1 c0 c1 h0 n0 _ T14.heap _
        rw [e14]
        exact ⟨_, rfl, by rw [own_fp (x := x0.toInt) (by omega)]; rw [own_fn (x := x1.toInt) (by omega)]; omega, N0, rfl⟩
    · obtain ⟨T18, X18, e18, st18⟩ := getF X14 hx hZ hown (host := "") (Or.inl (hw _ (List.mem_of_getElem? (i := 12) rfl))) Via.refl e14 F1 (g := (mkF m 28 #[.val (.ref oa), .val (.long qs), .second, .val (.long hd0_9), .second, .val (.int (1 : Int32))] [(.ref oa), (.long hd0_9)])) rfl rfl (hb hby d3_28)
      obtain ⟨cl19, Ar19, q19, S19, M19, H19, G19⟩ := id V1
      have hin19 : ¬ ((1 : Int32) < 0 ∨ cl19.slots.size ≤ ((1 : Int32)).toNatClampNeg) := inb_of S19 ⟨by decide, by decide⟩
      have hat19 : cl19.slots[((1 : Int32)).toNatClampNeg]? = some (.long c1) := Has.at H19 hin19 rfl
      have pre21 : ∀ t, Steps p.tables e below (T18.setTop (mkF m 36 #[.val (.ref oa), .val (.long qs), .second, .val (.long (hd0_9 + c1)), .second, .val (.int (1 : Int32))] [])) t → Steps p.tables e below (s₁.setTop (entryFrame m #[(.ref oa), (.long qs)] 6)) t := fun t kt => by
        refine pre17 _ ?_
        show Steps p.tables e below (T14.setTop (mkF m 23 #[.val (.ref oa), .val (.long qs), .second, .val (.long hd0_9), .second, .val (.int (1 : Int32))] [(.int (lcmpW x1 qs))])) _
        refine XS.ifNo X14.here hx rfl (hb hby d3_23) rfl (own_if (own_fgtL (x := x1) (y := qs) rfl rfl hc23_16).1) ?_
        show Steps p.tables e below (T14.setTop (mkF m 26 #[.val (.ref oa), .val (.long qs), .second, .val (.long hd0_9), .second, .val (.int (1 : Int32))] [])) _
        refine XS.lloadN X14.here hx rfl (hb hby d3_26) rfl ?_
        show Steps p.tables e below (T14.setTop (mkF m 27 #[.val (.ref oa), .val (.long qs), .second, .val (.long hd0_9), .second, .val (.int (1 : Int32))] [(.long hd0_9)])) _
        refine XS.aloadN X14.here hx rfl (hb hby d3_27) rfl rfl ?_
        show Steps p.tables e below (T14.setTop (mkF m 28 #[.val (.ref oa), .val (.long qs), .second, .val (.long hd0_9), .second, .val (.int (1 : Int32))] [(.ref oa), (.long hd0_9)])) _
        refine st18 _ ?_
        show Steps p.tables e below (T18.setTop (mkF m 31 #[.val (.ref oa), .val (.long qs), .second, .val (.long hd0_9), .second, .val (.int (1 : Int32))] [(.ref ca), (.long hd0_9)])) _
        refine XS.iload X18.here hx rfl (hb hby d3_31) rfl ?_
        show Steps p.tables e below (T18.setTop (mkF m 33 #[.val (.ref oa), .val (.long qs), .second, .val (.long hd0_9), .second, .val (.int (1 : Int32))] [(.int (1 : Int32)), (.ref ca), (.long hd0_9)])) _
        refine X18.laload hx (j := (1 : Int32)) (v := (.long c1)) (by rw [e18]; exact Ar19.1) (State.isArrayOf_alike hZ.alike Ar19.2.1) Ar19.2.2 hin19 hat19 (g := (mkF m 33 #[.val (.ref oa), .val (.long qs), .second, .val (.long hd0_9), .second, .val (.int (1 : Int32))] [(.int (1 : Int32)), (.ref ca), (.long hd0_9)])) rfl rfl (hb hby d3_33) _ ?_
        show Steps p.tables e below (T18.setTop (mkF m 34 #[.val (.ref oa), .val (.long qs), .second, .val (.long hd0_9), .second, .val (.int (1 : Int32))] [(.long c1), (.long hd0_9)])) _
        refine XS.ladd X18.here hx rfl (hb hby d3_34) rfl ?_
        show Steps p.tables e below (T18.setTop (mkF m 35 #[.val (.ref oa), .val (.long qs), .second, .val (.long hd0_9), .second, .val (.int (1 : Int32))] [(.long (hd0_9 + c1))])) _
        refine XS.lstoreN X18.here hx rfl (hb hby d3_35) rfl (l' := #[.val (.ref oa), .val (.long qs), .second, .val (.long (hd0_9 + c1)), .second, .val (.int (1 : Int32))]) rfl ?_
        exact kt
      obtain ⟨hd1_20, hhd1_20⟩ : ∃ z : Int64, z = (hd0_9 + c1) := ⟨_, rfl⟩
      have ihd1_20 : hd1_20.toInt = c0.toInt + c1.toInt := by rw [hhd1_20]; have := rng64 hd0_9; have := rng64 c1; have : (((hd0_9 + c1)).toInt - (hd0_9.toInt + c1.toInt)) % 18446744073709551616 = 0 := c_ladd hd0_9 c1; have := rng64 (hd0_9 + c1); omega
      have pre22 : ∀ t, Steps p.tables e below (T18.setTop (mkF m 36 #[.val (.ref oa), .val (.long qs), .second, .val (.long hd1_20), .second, .val (.int (1 : Int32))] [])) t → Steps p.tables e below (s₁.setTop (entryFrame m #[(.ref oa), (.long qs)] 6)) t := by rw [hhd1_20]; exact pre21
      obtain ⟨T23, X23, e23, st23⟩ := getF X18 hx hZ hown (host := "") (Or.inl (hw _ (List.mem_of_getElem? (i := 19) rfl))) Via.refl e18 F2 (g := (mkF m 8 #[.val (.ref oa), .val (.long qs), .second, .val (.long hd1_20), .second, .val (.int (2 : Int32))] [(.ref oa), (.int (2 : Int32))])) rfl rfl (hb hby d3_8)
      have hc11_24 : ¬ ((2 : Int) < (2 : Int)) := by decide
      obtain ⟨fs, hr, hrun, hended, hW, hsame⟩ := X23.leave (v := some (.long hd1_20)) (fun h => by rw [Bd.returns] at h; cases h)
      refine ⟨_, _, pre22 _ ?_, hrun, hended, _, _, rfl, ?_, ⟨_, rfl⟩, hW, hsame.mono (by decide) (by decide)⟩
      · show Steps p.tables e below (T18.setTop (mkF m 36 #[.val (.ref oa), .val (.long qs), .second, .val (.long hd1_20), .second, .val (.int (1 : Int32))] [])) _
        refine XS.iinc X18.here hx rfl (hb hby d3_36) rfl (l' := #[.val (.ref oa), .val (.long qs), .second, .val (.long hd1_20), .second, .val (.int (2 : Int32))]) rfl ?_
        show Steps p.tables e below (T18.setTop (mkF m 39 #[.val (.ref oa), .val (.long qs), .second, .val (.long hd1_20), .second, .val (.int (2 : Int32))] [])) _
        refine XS.goto X18.here hx rfl (pc0 := 39) (pc' := 5) rfl (hb hby d3_39) (by decide) (by decide) ?_
        show Steps p.tables e below (T18.setTop (mkF m 5 #[.val (.ref oa), .val (.long qs), .second, .val (.long hd1_20), .second, .val (.int (2 : Int32))] [])) _
        refine XS.iload X18.here hx rfl (hb hby d3_5) rfl ?_
        show Steps p.tables e below (T18.setTop (mkF m 7 #[.val (.ref oa), .val (.long qs), .second, .val (.long hd1_20), .second, .val (.int (2 : Int32))] [(.int (2 : Int32))])) _
        refine XS.aloadN X18.here hx rfl (hb hby d3_7) rfl rfl ?_
        show Steps p.tables e below (T18.setTop (mkF m 8 #[.val (.ref oa), .val (.long qs), .second, .val (.long hd1_20), .second, .val (.int (2 : Int32))] [(.ref oa), (.int (2 : Int32))])) _
        refine st23 _ ?_
        show Steps p.tables e below (T23.setTop (mkF m 11 #[.val (.ref oa), .val (.long qs), .second, .val (.long hd1_20), .second, .val (.int (2 : Int32))] [(.int (2 : Int32)), (.int (2 : Int32))])) _
        refine XS.icmpYes X23.here hx rfl (pc0 := 11) (pc' := 42) rfl (hb hby d3_11) rfl (own_flt (a := (2 : Int32)) (b := (2 : Int32)) (by decide) (by decide) hc11_24).2.1 (by decide) (by decide) ?_
        show Steps p.tables e below (T23.setTop (mkF m 42 #[.val (.ref oa), .val (.long qs), .second, .val (.long hd1_20), .second, .val (.int (2 : Int32))] [])) _
        refine XS.lloadN X23.here hx rfl (hb hby d3_42) rfl ?_
        show Steps p.tables e below (T23.setTop (mkF m 43 #[.val (.ref oa), .val (.long qs), .second, .val (.long hd1_20), .second, .val (.int (2 : Int32))] [(.long hd1_20)])) _
        jvm_step X23.here [X23.here.top, hx, (hb hby d3_43), X23.method', Bd.returns, narrow]
        first | (intro acts; rw [hr _ acts rfl rfl rfl]) | rw [hr _ _ rfl rfl rfl]
        exact Steps.refl _
      · show Q_h2 Z oa qs ea ca kE kC x0 x1 c0 c1 h0 n0 _ T23.heap _
        rw [e23]
        exact ⟨_, rfl, by rw [own_fp (x := x0.toInt) (by omega)]; rw [own_fp (x := x1.toInt) (by omega)]; omega, N0, rfl⟩
theorem ef_rm_h3 (m : MethodId) (x0 : Addr) (x1 : Int64) : entryFrame m #[(.ref x0), (.long x1)] 6 = mkF m 0 #[.val (.ref x0), .val (.long x1), .second, .unset, .unset, .unset] [] := by first | (simp [entryFrame, mkF, argsToLocals, Value.category]; done) | rfl
def Q_h3 (Z : State) (oa : Addr) (qs : Int64) (ea : Addr) (ca : Addr) (kE : ClassId) (kC : ClassId) (x0 : Int64) (x1 : Int64) (x2 : Int64) (c0 : Int64) (c1 : Int64) (c2 : Int64) (h0 : Heap) (n0 : Nat) (v : Option Value) (h : Heap) (L : List Loc) : Prop := ∃ z : Int64, v = some (.long z) ∧ (z.toInt = own_f x0.toInt qs.toInt c0.toInt + own_f x1.toInt qs.toInt c1.toInt + own_f x2.toInt qs.toInt c2.toInt) ∧ Fr n0 L ∧ h = h0
set_option maxRecDepth 65536 in
set_option maxHeartbeats 40000000 in
theorem rm_h3 (l : Launch) (Z : State) (a0 : Array Value) (hw : ∀ d ∈ tables_1, d.before a0 Z = true) (ws : List Jvm.Cond) (oa : Addr) (qs : Int64) (ea : Addr) (ca : Addr) (kE : ClassId) (kC : ClassId) (x0 : Int64) (x1 : Int64) (x2 : Int64) (c0 : Int64) (c1 : Int64) (c2 : Int64) (h0 : Heap) (n0 : Nat) (Z0 : n0 ≤ h0.size) (Ea : Exa Z h0 oa "com/example/foreslot/foreslot/CountsByEnd") (F0 : Fld Z h0 oa "com/example/foreslot/foreslot/CountsByEnd" "ends" "[J" (.ref ea)) (F1 : Fld Z h0 oa "com/example/foreslot/foreslot/CountsByEnd" "counts" "[J" (.ref ca)) (F2 : Fld Z h0 oa "com/example/foreslot/foreslot/CountsByEnd" "size" "I" (.int (3 : Int32))) (V0 : Arv Z h0 ea kE .long (16 : Int32) [(.long x0), (.long x1), (.long x2), (.long (0 : Int64))] (.long (0 : Int64))) (V1 : Arv Z h0 ca kC .long (16 : Int32) [(.long c0), (.long c1), (.long c2), (.long (0 : Int64))] (.long (0 : Int64))) (os0 : x0.toInt < x1.toInt) (os1 : x1.toInt < x2.toInt) (kc0 : 1 ≤ c0.toInt) (kc1 : 1 ≤ c1.toInt) (kc2 : 1 ≤ c2.toInt) (kt : c0.toInt + c1.toInt + c2.toInt ≤ 100000) :
    MetFree l (⟨"com/example/foreslot/foreslot/CountsByEnd", "heldUntilAtLatest", "(J)J"⟩ : MethodName) (head1 (Jvm.Cond.code (⟨"com/example/foreslot/foreslot/CountsByEnd", "heldUntilAtLatest", "(J)J"⟩ : MethodName) prog_20_method_4_code 6 (some .long) :: ws) ({ frames := 0, cells := 0, slots := 0, locals := 0 } : Room)) (fun a U => a = #[(.ref oa), (.long qs)] ∧ Z.Warmed39 U.vm ∧ U.heap = h0) (fun _ _ _ _ _ => True) (fun _ U o U' => ∃ v L, o = .returned v ∧ Q_h3 Z oa qs ea ca kE kC x0 x1 x2 c0 c1 c2 h0 n0 v U'.heap L ∧ FrameEnd U o U' L ({ frames := 0, cells := 0, slots := 0, locals := 0 } : Room).cells ({ frames := 0, cells := 0, slots := 0, locals := 0 } : Room).slots) := by
  refine MetFree.of_bodySF (plainFor_of_name pn_1) hisR ?_
  intro p e s m args below meth c s₁ Bd hml0 hP hK
  obtain ⟨rfl, hZ, hh⟩ := hP
  have hx := Bd.exec
  have hby := Bd.bytes
  have hml : c.maxLocals = 6 := hml0
  have hown : s.vm.findClass "com/example/foreslot/foreslot/CountsByEnd" = some m.cls := findClass_of_methodNamed Bd.named
  have hnm := (name_of_methodNamed Bd.named Bd.method).1
  have X0 : Stand p l e ({ frames := 0, cells := 0, slots := 0, locals := 0 } : Room) s m #[(.ref oa), (.long qs)] below meth c s₁ [] 0 0 := Stand.of_body Bd
  have e0 : s₁.heap = h0 := by rw [← hh, Bd.state]; rfl
  have N0 := Fr.nil n0
  have pre0 : ∀ t, Steps p.tables e below (s₁.setTop (mkF m 0 #[.val (.ref oa), .val (.long qs), .second, .unset, .unset, .unset] [])) t → Steps p.tables e below (s₁.setTop (entryFrame m #[(.ref oa), (.long qs)] 6)) t := fun t k => castTop (ef_rm_h3 m oa qs) k
  obtain ⟨T1, X1, e1, st1⟩ := getF X0 hx hZ hown (host := "") (Or.inl (hw _ (List.mem_of_getElem? (i := 19) rfl))) Via.refl e0 F2 (g := (mkF m 8 #[.val (.ref oa), .val (.long qs), .second, .val (.long (0 : Int64)), .second, .val (.int (0 : Int32))] [(.ref oa), (.int (0 : Int32))])) rfl rfl (hb hby d3_8)
  have hc11_2 : (0 : Int) < (3 : Int) := by decide
  obtain ⟨T3, X3, e3, st3⟩ := getF X1 hx hZ hown (host := "") (Or.inl (hw _ (List.mem_of_getElem? (i := 10) rfl))) Via.refl e1 F0 (g := (mkF m 15 #[.val (.ref oa), .val (.long qs), .second, .val (.long (0 : Int64)), .second, .val (.int (0 : Int32))] [(.ref oa)])) rfl rfl (hb hby d3_15)
  obtain ⟨cl4, Ar4, q4, S4, M4, H4, G4⟩ := id V0
  have hin4 : ¬ ((0 : Int32) < 0 ∨ cl4.slots.size ≤ ((0 : Int32)).toNatClampNeg) := inb_of S4 ⟨by decide, by decide⟩
  have hat4 : cl4.slots[((0 : Int32)).toNatClampNeg]? = some (.long x0) := Has.at H4 hin4 rfl
  have pre6 : ∀ t, Steps p.tables e below (T3.setTop (mkF m 23 #[.val (.ref oa), .val (.long qs), .second, .val (.long (0 : Int64)), .second, .val (.int (0 : Int32))] [(.int (lcmpW x0 qs))])) t → Steps p.tables e below (s₁.setTop (entryFrame m #[(.ref oa), (.long qs)] 6)) t := fun t kt => by
    refine pre0 _ ?_
    show Steps p.tables e below (s₁.setTop (mkF m 0 #[.val (.ref oa), .val (.long qs), .second, .unset, .unset, .unset] [])) _
    refine XS.lconst X0.here hx rfl (hb hby d3_0) ?_
    show Steps p.tables e below (s₁.setTop (mkF m 1 #[.val (.ref oa), .val (.long qs), .second, .unset, .unset, .unset] [(.long (0 : Int64))])) _
    refine XS.lstoreN X0.here hx rfl (hb hby d3_1) rfl (l' := #[.val (.ref oa), .val (.long qs), .second, .val (.long (0 : Int64)), .second, .unset]) rfl ?_
    show Steps p.tables e below (s₁.setTop (mkF m 2 #[.val (.ref oa), .val (.long qs), .second, .val (.long (0 : Int64)), .second, .unset] [])) _
    refine XS.iconst X0.here hx rfl (hb hby d3_2) ?_
    show Steps p.tables e below (s₁.setTop (mkF m 3 #[.val (.ref oa), .val (.long qs), .second, .val (.long (0 : Int64)), .second, .unset] [(.int (0 : Int32))])) _
    refine XS.istore X0.here hx rfl (hb hby d3_3) rfl (l' := #[.val (.ref oa), .val (.long qs), .second, .val (.long (0 : Int64)), .second, .val (.int (0 : Int32))]) rfl ?_
    show Steps p.tables e below (s₁.setTop (mkF m 5 #[.val (.ref oa), .val (.long qs), .second, .val (.long (0 : Int64)), .second, .val (.int (0 : Int32))] [])) _
    refine XS.iload X0.here hx rfl (hb hby d3_5) rfl ?_
    show Steps p.tables e below (s₁.setTop (mkF m 7 #[.val (.ref oa), .val (.long qs), .second, .val (.long (0 : Int64)), .second, .val (.int (0 : Int32))] [(.int (0 : Int32))])) _
    refine XS.aloadN X0.here hx rfl (hb hby d3_7) rfl rfl ?_
    show Steps p.tables e below (s₁.setTop (mkF m 8 #[.val (.ref oa), .val (.long qs), .second, .val (.long (0 : Int64)), .second, .val (.int (0 : Int32))] [(.ref oa), (.int (0 : Int32))])) _
    refine st1 _ ?_
    show Steps p.tables e below (T1.setTop (mkF m 11 #[.val (.ref oa), .val (.long qs), .second, .val (.long (0 : Int64)), .second, .val (.int (0 : Int32))] [(.int (3 : Int32)), (.int (0 : Int32))])) _
    refine XS.icmpNo X1.here hx rfl (hb hby d3_11) rfl (own_tlt (a := (0 : Int32)) (b := (3 : Int32)) (by decide) (by decide) hc11_2).2.1 ?_
    show Steps p.tables e below (T1.setTop (mkF m 14 #[.val (.ref oa), .val (.long qs), .second, .val (.long (0 : Int64)), .second, .val (.int (0 : Int32))] [])) _
    refine XS.aloadN X1.here hx rfl (hb hby d3_14) rfl rfl ?_
    show Steps p.tables e below (T1.setTop (mkF m 15 #[.val (.ref oa), .val (.long qs), .second, .val (.long (0 : Int64)), .second, .val (.int (0 : Int32))] [(.ref oa)])) _
    refine st3 _ ?_
    show Steps p.tables e below (T3.setTop (mkF m 18 #[.val (.ref oa), .val (.long qs), .second, .val (.long (0 : Int64)), .second, .val (.int (0 : Int32))] [(.ref ea)])) _
    refine XS.iload X3.here hx rfl (hb hby d3_18) rfl ?_
    show Steps p.tables e below (T3.setTop (mkF m 20 #[.val (.ref oa), .val (.long qs), .second, .val (.long (0 : Int64)), .second, .val (.int (0 : Int32))] [(.int (0 : Int32)), (.ref ea)])) _
    refine X3.laload hx (j := (0 : Int32)) (v := (.long x0)) (by rw [e3]; exact Ar4.1) (State.isArrayOf_alike hZ.alike Ar4.2.1) Ar4.2.2 hin4 hat4 (g := (mkF m 20 #[.val (.ref oa), .val (.long qs), .second, .val (.long (0 : Int64)), .second, .val (.int (0 : Int32))] [(.int (0 : Int32)), (.ref ea)])) rfl rfl (hb hby d3_20) _ ?_
    show Steps p.tables e below (T3.setTop (mkF m 21 #[.val (.ref oa), .val (.long qs), .second, .val (.long (0 : Int64)), .second, .val (.int (0 : Int32))] [(.long x0)])) _
    refine XS.lloadN X3.here hx rfl (hb hby d3_21) rfl ?_
    show Steps p.tables e below (T3.setTop (mkF m 22 #[.val (.ref oa), .val (.long qs), .second, .val (.long (0 : Int64)), .second, .val (.int (0 : Int32))] [(.long qs), (.long x0)])) _
    refine XS.lcmp X3.here hx rfl (hb hby d3_22) rfl ?_
    exact kt
  by_cases hc23_5 : qs.toInt < x0.toInt
  · obtain ⟨fs, hr, hrun, hended, hW, hsame⟩ := X3.leave (v := some (.long (0 : Int64))) (fun h => by rw [Bd.returns] at h; cases h)
    refine ⟨_, _, pre6 _ ?_, hrun, hended, _, _, rfl, ?_, ⟨_, rfl⟩, hW, hsame.mono (by decide) (by decide)⟩
    · show Steps p.tables e below (T3.setTop (mkF m 23 #[.val (.ref oa), .val (.long qs), .second, .val (.long (0 : Int64)), .second, .val (.int (0 : Int32))] [(.int (lcmpW x0 qs))])) _
      refine XS.ifYes X3.here hx rfl (pc0 := 23) (pc' := 42) rfl (hb hby d3_23) rfl (own_if (own_tgtL (x := x0) (y := qs) rfl rfl hc23_5).1) (by decide) (by decide) ?_
      show Steps p.tables e below (T3.setTop (mkF m 42 #[.val (.ref oa), .val (.long qs), .second, .val (.long (0 : Int64)), .second, .val (.int (0 : Int32))] [])) _
      refine XS.lloadN X3.here hx rfl (hb hby d3_42) rfl ?_
      show Steps p.tables e below (T3.setTop (mkF m 43 #[.val (.ref oa), .val (.long qs), .second, .val (.long (0 : Int64)), .second, .val (.int (0 : Int32))] [(.long (0 : Int64))])) _
      jvm_step X3.here [X3.here.top, hx, (hb hby d3_43), X3.method', Bd.returns, narrow]
      first | (intro acts; rw [hr _ acts rfl rfl rfl]) | rw [hr _ _ rfl rfl rfl]
      exact Steps.refl _
    · show Q_h3 Z oa qs ea ca kE kC x0 x1 x2 c0 c1 c2 h0 n0 _ T3.heap _
      rw [e3]
      exact ⟨_, rfl, by have iv : ((0 : Int64)).toInt = (0 : Int) := (by decide); rw [own_fn (x := x0.toInt) (by omega)]; rw [own_fn (x := x1.toInt) (by omega)]; rw [own_fn (x := x2.toInt) (by omega)]; omega, N0, rfl⟩
  · obtain ⟨T7, X7, e7, st7⟩ := getF X3 hx hZ hown (host := "") (Or.inl (hw _ (List.mem_of_getElem? (i := 12) rfl))) Via.refl e3 F1 (g := (mkF m 28 #[.val (.ref oa), .val (.long qs), .second, .val (.long (0 : Int64)), .second, .val (.int (0 : Int32))] [(.ref oa), (.long (0 : Int64))])) rfl rfl (hb hby d3_28)
    obtain ⟨cl8, Ar8, q8, S8, M8, H8, G8⟩ := id V1
    have hin8 : ¬ ((0 : Int32) < 0 ∨ cl8.slots.size ≤ ((0 : Int32)).toNatClampNeg) := inb_of S8 ⟨by decide, by decide⟩
    have hat8 : cl8.slots[((0 : Int32)).toNatClampNeg]? = some (.long c0) := Has.at H8 hin8 rfl
    have pre10 : ∀ t, Steps p.tables e below (T7.setTop (mkF m 36 #[.val (.ref oa), .val (.long qs), .second, .val (.long ((0 : Int64) + c0)), .second, .val (.int (0 : Int32))] [])) t → Steps p.tables e below (s₁.setTop (entryFrame m #[(.ref oa), (.long qs)] 6)) t := fun t kt => by
      refine pre6 _ ?_
      show Steps p.tables e below (T3.setTop (mkF m 23 #[.val (.ref oa), .val (.long qs), .second, .val (.long (0 : Int64)), .second, .val (.int (0 : Int32))] [(.int (lcmpW x0 qs))])) _
      refine XS.ifNo X3.here hx rfl (hb hby d3_23) rfl (own_if (own_fgtL (x := x0) (y := qs) rfl rfl hc23_5).1) ?_
      show Steps p.tables e below (T3.setTop (mkF m 26 #[.val (.ref oa), .val (.long qs), .second, .val (.long (0 : Int64)), .second, .val (.int (0 : Int32))] [])) _
      refine XS.lloadN X3.here hx rfl (hb hby d3_26) rfl ?_
      show Steps p.tables e below (T3.setTop (mkF m 27 #[.val (.ref oa), .val (.long qs), .second, .val (.long (0 : Int64)), .second, .val (.int (0 : Int32))] [(.long (0 : Int64))])) _
      refine XS.aloadN X3.here hx rfl (hb hby d3_27) rfl rfl ?_
      show Steps p.tables e below (T3.setTop (mkF m 28 #[.val (.ref oa), .val (.long qs), .second, .val (.long (0 : Int64)), .second, .val (.int (0 : Int32))] [(.ref oa), (.long (0 : Int64))])) _
      refine st7 _ ?_
      show Steps p.tables e below (T7.setTop (mkF m 31 #[.val (.ref oa), .val (.long qs), .second, .val (.long (0 : Int64)), .second, .val (.int (0 : Int32))] [(.ref ca), (.long (0 : Int64))])) _
      refine XS.iload X7.here hx rfl (hb hby d3_31) rfl ?_
      show Steps p.tables e below (T7.setTop (mkF m 33 #[.val (.ref oa), .val (.long qs), .second, .val (.long (0 : Int64)), .second, .val (.int (0 : Int32))] [(.int (0 : Int32)), (.ref ca), (.long (0 : Int64))])) _
      refine X7.laload hx (j := (0 : Int32)) (v := (.long c0)) (by rw [e7]; exact Ar8.1) (State.isArrayOf_alike hZ.alike Ar8.2.1) Ar8.2.2 hin8 hat8 (g := (mkF m 33 #[.val (.ref oa), .val (.long qs), .second, .val (.long (0 : Int64)), .second, .val (.int (0 : Int32))] [(.int (0 : Int32)), (.ref ca), (.long (0 : Int64))])) rfl rfl (hb hby d3_33) _ ?_
      show Steps p.tables e below (T7.setTop (mkF m 34 #[.val (.ref oa), .val (.long qs), .second, .val (.long (0 : Int64)), .second, .val (.int (0 : Int32))] [(.long c0), (.long (0 : Int64))])) _
      refine XS.ladd X7.here hx rfl (hb hby d3_34) rfl ?_
      show Steps p.tables e below (T7.setTop (mkF m 35 #[.val (.ref oa), .val (.long qs), .second, .val (.long (0 : Int64)), .second, .val (.int (0 : Int32))] [(.long ((0 : Int64) + c0))])) _
      refine XS.lstoreN X7.here hx rfl (hb hby d3_35) rfl (l' := #[.val (.ref oa), .val (.long qs), .second, .val (.long ((0 : Int64) + c0)), .second, .val (.int (0 : Int32))]) rfl ?_
      exact kt
    obtain ⟨hd0_9, hhd0_9⟩ : ∃ z : Int64, z = ((0 : Int64) + c0) := ⟨_, rfl⟩
    have ihd0_9 : hd0_9.toInt = c0.toInt := by rw [hhd0_9]; have := rng64 c0; have : ((((0 : Int64) + c0)).toInt - ((0 : Int) + c0.toInt)) % 18446744073709551616 = 0 := c_ladd (0 : Int64) c0; have := rng64 ((0 : Int64) + c0); omega
    have pre11 : ∀ t, Steps p.tables e below (T7.setTop (mkF m 36 #[.val (.ref oa), .val (.long qs), .second, .val (.long hd0_9), .second, .val (.int (0 : Int32))] [])) t → Steps p.tables e below (s₁.setTop (entryFrame m #[(.ref oa), (.long qs)] 6)) t := by rw [hhd0_9]; exact pre10
    obtain ⟨T12, X12, e12, st12⟩ := getF X7 hx hZ hown (host := "") (Or.inl (hw _ (List.mem_of_getElem? (i := 19) rfl))) Via.refl e7 F2 (g := (mkF m 8 #[.val (.ref oa), .val (.long qs), .second, .val (.long hd0_9), .second, .val (.int (1 : Int32))] [(.ref oa), (.int (1 : Int32))])) rfl rfl (hb hby d3_8)
    have hc11_13 : (1 : Int) < (3 : Int) := by decide
    obtain ⟨T14, X14, e14, st14⟩ := getF X12 hx hZ hown (host := "") (Or.inl (hw _ (List.mem_of_getElem? (i := 10) rfl))) Via.refl e12 F0 (g := (mkF m 15 #[.val (.ref oa), .val (.long qs), .second, .val (.long hd0_9), .second, .val (.int (1 : Int32))] [(.ref oa)])) rfl rfl (hb hby d3_15)
    obtain ⟨cl15, Ar15, q15, S15, M15, H15, G15⟩ := id V0
    have hin15 : ¬ ((1 : Int32) < 0 ∨ cl15.slots.size ≤ ((1 : Int32)).toNatClampNeg) := inb_of S15 ⟨by decide, by decide⟩
    have hat15 : cl15.slots[((1 : Int32)).toNatClampNeg]? = some (.long x1) := Has.at H15 hin15 rfl
    have pre17 : ∀ t, Steps p.tables e below (T14.setTop (mkF m 23 #[.val (.ref oa), .val (.long qs), .second, .val (.long hd0_9), .second, .val (.int (1 : Int32))] [(.int (lcmpW x1 qs))])) t → Steps p.tables e below (s₁.setTop (entryFrame m #[(.ref oa), (.long qs)] 6)) t := fun t kt => by
      refine pre11 _ ?_
      show Steps p.tables e below (T7.setTop (mkF m 36 #[.val (.ref oa), .val (.long qs), .second, .val (.long hd0_9), .second, .val (.int (0 : Int32))] [])) _
      refine XS.iinc X7.here hx rfl (hb hby d3_36) rfl (l' := #[.val (.ref oa), .val (.long qs), .second, .val (.long hd0_9), .second, .val (.int (1 : Int32))]) rfl ?_
      show Steps p.tables e below (T7.setTop (mkF m 39 #[.val (.ref oa), .val (.long qs), .second, .val (.long hd0_9), .second, .val (.int (1 : Int32))] [])) _
      refine XS.goto X7.here hx rfl (pc0 := 39) (pc' := 5) rfl (hb hby d3_39) (by decide) (by decide) ?_
      show Steps p.tables e below (T7.setTop (mkF m 5 #[.val (.ref oa), .val (.long qs), .second, .val (.long hd0_9), .second, .val (.int (1 : Int32))] [])) _
      refine XS.iload X7.here hx rfl (hb hby d3_5) rfl ?_
      show Steps p.tables e below (T7.setTop (mkF m 7 #[.val (.ref oa), .val (.long qs), .second, .val (.long hd0_9), .second, .val (.int (1 : Int32))] [(.int (1 : Int32))])) _
      refine XS.aloadN X7.here hx rfl (hb hby d3_7) rfl rfl ?_
      show Steps p.tables e below (T7.setTop (mkF m 8 #[.val (.ref oa), .val (.long qs), .second, .val (.long hd0_9), .second, .val (.int (1 : Int32))] [(.ref oa), (.int (1 : Int32))])) _
      refine st12 _ ?_
      show Steps p.tables e below (T12.setTop (mkF m 11 #[.val (.ref oa), .val (.long qs), .second, .val (.long hd0_9), .second, .val (.int (1 : Int32))] [(.int (3 : Int32)), (.int (1 : Int32))])) _
      refine XS.icmpNo X12.here hx rfl (hb hby d3_11) rfl (own_tlt (a := (1 : Int32)) (b := (3 : Int32)) (by decide) (by decide) hc11_13).2.1 ?_
      show Steps p.tables e below (T12.setTop (mkF m 14 #[.val (.ref oa), .val (.long qs), .second, .val (.long hd0_9), .second, .val (.int (1 : Int32))] [])) _
      refine XS.aloadN X12.here hx rfl (hb hby d3_14) rfl rfl ?_
      show Steps p.tables e below (T12.setTop (mkF m 15 #[.val (.ref oa), .val (.long qs), .second, .val (.long hd0_9), .second, .val (.int (1 : Int32))] [(.ref oa)])) _
      refine st14 _ ?_
      show Steps p.tables e below (T14.setTop (mkF m 18 #[.val (.ref oa), .val (.long qs), .second, .val (.long hd0_9), .second, .val (.int (1 : Int32))] [(.ref ea)])) _
      refine XS.iload X14.here hx rfl (hb hby d3_18) rfl ?_
      show Steps p.tables e below (T14.setTop (mkF m 20 #[.val (.ref oa), .val (.long qs), .second, .val (.long hd0_9), .second, .val (.int (1 : Int32))] [(.int (1 : Int32)), (.ref ea)])) _
      refine X14.laload hx (j := (1 : Int32)) (v := (.long x1)) (by rw [e14]; exact Ar15.1) (State.isArrayOf_alike hZ.alike Ar15.2.1) Ar15.2.2 hin15 hat15 (g := (mkF m 20 #[.val (.ref oa), .val (.long qs), .second, .val (.long hd0_9), .second, .val (.int (1 : Int32))] [(.int (1 : Int32)), (.ref ea)])) rfl rfl (hb hby d3_20) _ ?_
      show Steps p.tables e below (T14.setTop (mkF m 21 #[.val (.ref oa), .val (.long qs), .second, .val (.long hd0_9), .second, .val (.int (1 : Int32))] [(.long x1)])) _
      refine XS.lloadN X14.here hx rfl (hb hby d3_21) rfl ?_
      show Steps p.tables e below (T14.setTop (mkF m 22 #[.val (.ref oa), .val (.long qs), .second, .val (.long hd0_9), .second, .val (.int (1 : Int32))] [(.long qs), (.long x1)])) _
      refine XS.lcmp X14.here hx rfl (hb hby d3_22) rfl ?_
      exact kt
    by_cases hc23_16 : qs.toInt < x1.toInt
    · obtain ⟨fs, hr, hrun, hended, hW, hsame⟩ := X14.leave (v := some (.long hd0_9)) (fun h => by rw [Bd.returns] at h; cases h)
      refine ⟨_, _, pre17 _ ?_, hrun, hended, _, _, rfl, ?_, ⟨_, rfl⟩, hW, hsame.mono (by decide) (by decide)⟩
      · show Steps p.tables e below (T14.setTop (mkF m 23 #[.val (.ref oa), .val (.long qs), .second, .val (.long hd0_9), .second, .val (.int (1 : Int32))] [(.int (lcmpW x1 qs))])) _
        refine XS.ifYes X14.here hx rfl (pc0 := 23) (pc' := 42) rfl (hb hby d3_23) rfl (own_if (own_tgtL (x := x1) (y := qs) rfl rfl hc23_16).1) (by decide) (by decide) ?_
        show Steps p.tables e below (T14.setTop (mkF m 42 #[.val (.ref oa), .val (.long qs), .second, .val (.long hd0_9), .second, .val (.int (1 : Int32))] [])) _
        refine XS.lloadN X14.here hx rfl (hb hby d3_42) rfl ?_
        show Steps p.tables e below (T14.setTop (mkF m 43 #[.val (.ref oa), .val (.long qs), .second, .val (.long hd0_9), .second, .val (.int (1 : Int32))] [(.long hd0_9)])) _
        jvm_step X14.here [X14.here.top, hx, (hb hby d3_43), X14.method', Bd.returns, narrow]
        first | (intro acts; rw [hr _ acts rfl rfl rfl]) | rw [hr _ _ rfl rfl rfl]
        exact Steps.refl _
      · show Q_h3 Z oa qs ea ca kE kC x0 x1 x2 c0 c1 c2 h0 n0 _ T14.heap _
        rw [e14]
        exact ⟨_, rfl, by rw [own_fp (x := x0.toInt) (by omega)]; rw [own_fn (x := x1.toInt) (by omega)]; rw [own_fn (x := x2.toInt) (by omega)]; omega, N0, rfl⟩
    · obtain ⟨T18, X18, e18, st18⟩ := getF X14 hx hZ hown (host := "") (Or.inl (hw _ (List.mem_of_getElem? (i := 12) rfl))) Via.refl e14 F1 (g := (mkF m 28 #[.val (.ref oa), .val (.long qs), .second, .val (.long hd0_9), .second, .val (.int (1 : Int32))] [(.ref oa), (.long hd0_9)])) rfl rfl (hb hby d3_28)
      obtain ⟨cl19, Ar19, q19, S19, M19, H19, G19⟩ := id V1
      have hin19 : ¬ ((1 : Int32) < 0 ∨ cl19.slots.size ≤ ((1 : Int32)).toNatClampNeg) := inb_of S19 ⟨by decide, by decide⟩
      have hat19 : cl19.slots[((1 : Int32)).toNatClampNeg]? = some (.long c1) := Has.at H19 hin19 rfl
      have pre21 : ∀ t, Steps p.tables e below (T18.setTop (mkF m 36 #[.val (.ref oa), .val (.long qs), .second, .val (.long (hd0_9 + c1)), .second, .val (.int (1 : Int32))] [])) t → Steps p.tables e below (s₁.setTop (entryFrame m #[(.ref oa), (.long qs)] 6)) t := fun t kt => by
        refine pre17 _ ?_
        show Steps p.tables e below (T14.setTop (mkF m 23 #[.val (.ref oa), .val (.long qs), .second, .val (.long hd0_9), .second, .val (.int (1 : Int32))] [(.int (lcmpW x1 qs))])) _
        refine XS.ifNo X14.here hx rfl (hb hby d3_23) rfl (own_if (own_fgtL (x := x1) (y := qs) rfl rfl hc23_16).1) ?_
        show Steps p.tables e below (T14.setTop (mkF m 26 #[.val (.ref oa), .val (.long qs), .second, .val (.long hd0_9), .second, .val (.int (1 : Int32))] [])) _
        refine XS.lloadN X14.here hx rfl (hb hby d3_26) rfl ?_
        show Steps p.tables e below (T14.setTop (mkF m 27 #[.val (.ref oa), .val (.long qs), .second, .val (.long hd0_9), .second, .val (.int (1 : Int32))] [(.long hd0_9)])) _
        refine XS.aloadN X14.here hx rfl (hb hby d3_27) rfl rfl ?_
        show Steps p.tables e below (T14.setTop (mkF m 28 #[.val (.ref oa), .val (.long qs), .second, .val (.long hd0_9), .second, .val (.int (1 : Int32))] [(.ref oa), (.long hd0_9)])) _
        refine st18 _ ?_
        show Steps p.tables e below (T18.setTop (mkF m 31 #[.val (.ref oa), .val (.long qs), .second, .val (.long hd0_9), .second, .val (.int (1 : Int32))] [(.ref ca), (.long hd0_9)])) _
        refine XS.iload X18.here hx rfl (hb hby d3_31) rfl ?_
        show Steps p.tables e below (T18.setTop (mkF m 33 #[.val (.ref oa), .val (.long qs), .second, .val (.long hd0_9), .second, .val (.int (1 : Int32))] [(.int (1 : Int32)), (.ref ca), (.long hd0_9)])) _
        refine X18.laload hx (j := (1 : Int32)) (v := (.long c1)) (by rw [e18]; exact Ar19.1) (State.isArrayOf_alike hZ.alike Ar19.2.1) Ar19.2.2 hin19 hat19 (g := (mkF m 33 #[.val (.ref oa), .val (.long qs), .second, .val (.long hd0_9), .second, .val (.int (1 : Int32))] [(.int (1 : Int32)), (.ref ca), (.long hd0_9)])) rfl rfl (hb hby d3_33) _ ?_
        show Steps p.tables e below (T18.setTop (mkF m 34 #[.val (.ref oa), .val (.long qs), .second, .val (.long hd0_9), .second, .val (.int (1 : Int32))] [(.long c1), (.long hd0_9)])) _
        refine XS.ladd X18.here hx rfl (hb hby d3_34) rfl ?_
        show Steps p.tables e below (T18.setTop (mkF m 35 #[.val (.ref oa), .val (.long qs), .second, .val (.long hd0_9), .second, .val (.int (1 : Int32))] [(.long (hd0_9 + c1))])) _
        refine XS.lstoreN X18.here hx rfl (hb hby d3_35) rfl (l' := #[.val (.ref oa), .val (.long qs), .second, .val (.long (hd0_9 + c1)), .second, .val (.int (1 : Int32))]) rfl ?_
        exact kt
      obtain ⟨hd1_20, hhd1_20⟩ : ∃ z : Int64, z = (hd0_9 + c1) := ⟨_, rfl⟩
      have ihd1_20 : hd1_20.toInt = c0.toInt + c1.toInt := by rw [hhd1_20]; have := rng64 hd0_9; have := rng64 c1; have : (((hd0_9 + c1)).toInt - (hd0_9.toInt + c1.toInt)) % 18446744073709551616 = 0 := c_ladd hd0_9 c1; have := rng64 (hd0_9 + c1); omega
      have pre22 : ∀ t, Steps p.tables e below (T18.setTop (mkF m 36 #[.val (.ref oa), .val (.long qs), .second, .val (.long hd1_20), .second, .val (.int (1 : Int32))] [])) t → Steps p.tables e below (s₁.setTop (entryFrame m #[(.ref oa), (.long qs)] 6)) t := by rw [hhd1_20]; exact pre21
      obtain ⟨T23, X23, e23, st23⟩ := getF X18 hx hZ hown (host := "") (Or.inl (hw _ (List.mem_of_getElem? (i := 19) rfl))) Via.refl e18 F2 (g := (mkF m 8 #[.val (.ref oa), .val (.long qs), .second, .val (.long hd1_20), .second, .val (.int (2 : Int32))] [(.ref oa), (.int (2 : Int32))])) rfl rfl (hb hby d3_8)
      have hc11_24 : (2 : Int) < (3 : Int) := by decide
      obtain ⟨T25, X25, e25, st25⟩ := getF X23 hx hZ hown (host := "") (Or.inl (hw _ (List.mem_of_getElem? (i := 10) rfl))) Via.refl e23 F0 (g := (mkF m 15 #[.val (.ref oa), .val (.long qs), .second, .val (.long hd1_20), .second, .val (.int (2 : Int32))] [(.ref oa)])) rfl rfl (hb hby d3_15)
      obtain ⟨cl26, Ar26, q26, S26, M26, H26, G26⟩ := id V0
      have hin26 : ¬ ((2 : Int32) < 0 ∨ cl26.slots.size ≤ ((2 : Int32)).toNatClampNeg) := inb_of S26 ⟨by decide, by decide⟩
      have hat26 : cl26.slots[((2 : Int32)).toNatClampNeg]? = some (.long x2) := Has.at H26 hin26 rfl
      have pre28 : ∀ t, Steps p.tables e below (T25.setTop (mkF m 23 #[.val (.ref oa), .val (.long qs), .second, .val (.long hd1_20), .second, .val (.int (2 : Int32))] [(.int (lcmpW x2 qs))])) t → Steps p.tables e below (s₁.setTop (entryFrame m #[(.ref oa), (.long qs)] 6)) t := fun t kt => by
        refine pre22 _ ?_
        show Steps p.tables e below (T18.setTop (mkF m 36 #[.val (.ref oa), .val (.long qs), .second, .val (.long hd1_20), .second, .val (.int (1 : Int32))] [])) _
        refine XS.iinc X18.here hx rfl (hb hby d3_36) rfl (l' := #[.val (.ref oa), .val (.long qs), .second, .val (.long hd1_20), .second, .val (.int (2 : Int32))]) rfl ?_
        show Steps p.tables e below (T18.setTop (mkF m 39 #[.val (.ref oa), .val (.long qs), .second, .val (.long hd1_20), .second, .val (.int (2 : Int32))] [])) _
        refine XS.goto X18.here hx rfl (pc0 := 39) (pc' := 5) rfl (hb hby d3_39) (by decide) (by decide) ?_
        show Steps p.tables e below (T18.setTop (mkF m 5 #[.val (.ref oa), .val (.long qs), .second, .val (.long hd1_20), .second, .val (.int (2 : Int32))] [])) _
        refine XS.iload X18.here hx rfl (hb hby d3_5) rfl ?_
        show Steps p.tables e below (T18.setTop (mkF m 7 #[.val (.ref oa), .val (.long qs), .second, .val (.long hd1_20), .second, .val (.int (2 : Int32))] [(.int (2 : Int32))])) _
        refine XS.aloadN X18.here hx rfl (hb hby d3_7) rfl rfl ?_
        show Steps p.tables e below (T18.setTop (mkF m 8 #[.val (.ref oa), .val (.long qs), .second, .val (.long hd1_20), .second, .val (.int (2 : Int32))] [(.ref oa), (.int (2 : Int32))])) _
        refine st23 _ ?_
        show Steps p.tables e below (T23.setTop (mkF m 11 #[.val (.ref oa), .val (.long qs), .second, .val (.long hd1_20), .second, .val (.int (2 : Int32))] [(.int (3 : Int32)), (.int (2 : Int32))])) _
        refine XS.icmpNo X23.here hx rfl (hb hby d3_11) rfl (own_tlt (a := (2 : Int32)) (b := (3 : Int32)) (by decide) (by decide) hc11_24).2.1 ?_
        show Steps p.tables e below (T23.setTop (mkF m 14 #[.val (.ref oa), .val (.long qs), .second, .val (.long hd1_20), .second, .val (.int (2 : Int32))] [])) _
        refine XS.aloadN X23.here hx rfl (hb hby d3_14) rfl rfl ?_
        show Steps p.tables e below (T23.setTop (mkF m 15 #[.val (.ref oa), .val (.long qs), .second, .val (.long hd1_20), .second, .val (.int (2 : Int32))] [(.ref oa)])) _
        refine st25 _ ?_
        show Steps p.tables e below (T25.setTop (mkF m 18 #[.val (.ref oa), .val (.long qs), .second, .val (.long hd1_20), .second, .val (.int (2 : Int32))] [(.ref ea)])) _
        refine XS.iload X25.here hx rfl (hb hby d3_18) rfl ?_
        show Steps p.tables e below (T25.setTop (mkF m 20 #[.val (.ref oa), .val (.long qs), .second, .val (.long hd1_20), .second, .val (.int (2 : Int32))] [(.int (2 : Int32)), (.ref ea)])) _
        refine X25.laload hx (j := (2 : Int32)) (v := (.long x2)) (by rw [e25]; exact Ar26.1) (State.isArrayOf_alike hZ.alike Ar26.2.1) Ar26.2.2 hin26 hat26 (g := (mkF m 20 #[.val (.ref oa), .val (.long qs), .second, .val (.long hd1_20), .second, .val (.int (2 : Int32))] [(.int (2 : Int32)), (.ref ea)])) rfl rfl (hb hby d3_20) _ ?_
        show Steps p.tables e below (T25.setTop (mkF m 21 #[.val (.ref oa), .val (.long qs), .second, .val (.long hd1_20), .second, .val (.int (2 : Int32))] [(.long x2)])) _
        refine XS.lloadN X25.here hx rfl (hb hby d3_21) rfl ?_
        show Steps p.tables e below (T25.setTop (mkF m 22 #[.val (.ref oa), .val (.long qs), .second, .val (.long hd1_20), .second, .val (.int (2 : Int32))] [(.long qs), (.long x2)])) _
        refine XS.lcmp X25.here hx rfl (hb hby d3_22) rfl ?_
        exact kt
      by_cases hc23_27 : qs.toInt < x2.toInt
      · obtain ⟨fs, hr, hrun, hended, hW, hsame⟩ := X25.leave (v := some (.long hd1_20)) (fun h => by rw [Bd.returns] at h; cases h)
        refine ⟨_, _, pre28 _ ?_, hrun, hended, _, _, rfl, ?_, ⟨_, rfl⟩, hW, hsame.mono (by decide) (by decide)⟩
        · show Steps p.tables e below (T25.setTop (mkF m 23 #[.val (.ref oa), .val (.long qs), .second, .val (.long hd1_20), .second, .val (.int (2 : Int32))] [(.int (lcmpW x2 qs))])) _
          refine XS.ifYes X25.here hx rfl (pc0 := 23) (pc' := 42) rfl (hb hby d3_23) rfl (own_if (own_tgtL (x := x2) (y := qs) rfl rfl hc23_27).1) (by decide) (by decide) ?_
          show Steps p.tables e below (T25.setTop (mkF m 42 #[.val (.ref oa), .val (.long qs), .second, .val (.long hd1_20), .second, .val (.int (2 : Int32))] [])) _
          refine XS.lloadN X25.here hx rfl (hb hby d3_42) rfl ?_
          show Steps p.tables e below (T25.setTop (mkF m 43 #[.val (.ref oa), .val (.long qs), .second, .val (.long hd1_20), .second, .val (.int (2 : Int32))] [(.long hd1_20)])) _
          jvm_step X25.here [X25.here.top, hx, (hb hby d3_43), X25.method', Bd.returns, narrow]
          first | (intro acts; rw [hr _ acts rfl rfl rfl]) | rw [hr _ _ rfl rfl rfl]
          exact Steps.refl _
        · show Q_h3 Z oa qs ea ca kE kC x0 x1 x2 c0 c1 c2 h0 n0 _ T25.heap _
          rw [e25]
          exact ⟨_, rfl, by rw [own_fp (x := x0.toInt) (by omega)]; rw [own_fp (x := x1.toInt) (by omega)]; rw [own_fn (x := x2.toInt) (by omega)]; omega, N0, rfl⟩
      · obtain ⟨T29, X29, e29, st29⟩ := getF X25 hx hZ hown (host := "") (Or.inl (hw _ (List.mem_of_getElem? (i := 12) rfl))) Via.refl e25 F1 (g := (mkF m 28 #[.val (.ref oa), .val (.long qs), .second, .val (.long hd1_20), .second, .val (.int (2 : Int32))] [(.ref oa), (.long hd1_20)])) rfl rfl (hb hby d3_28)
        obtain ⟨cl30, Ar30, q30, S30, M30, H30, G30⟩ := id V1
        have hin30 : ¬ ((2 : Int32) < 0 ∨ cl30.slots.size ≤ ((2 : Int32)).toNatClampNeg) := inb_of S30 ⟨by decide, by decide⟩
        have hat30 : cl30.slots[((2 : Int32)).toNatClampNeg]? = some (.long c2) := Has.at H30 hin30 rfl
        have pre32 : ∀ t, Steps p.tables e below (T29.setTop (mkF m 36 #[.val (.ref oa), .val (.long qs), .second, .val (.long (hd1_20 + c2)), .second, .val (.int (2 : Int32))] [])) t → Steps p.tables e below (s₁.setTop (entryFrame m #[(.ref oa), (.long qs)] 6)) t := fun t kt => by
          refine pre28 _ ?_
          show Steps p.tables e below (T25.setTop (mkF m 23 #[.val (.ref oa), .val (.long qs), .second, .val (.long hd1_20), .second, .val (.int (2 : Int32))] [(.int (lcmpW x2 qs))])) _
          refine XS.ifNo X25.here hx rfl (hb hby d3_23) rfl (own_if (own_fgtL (x := x2) (y := qs) rfl rfl hc23_27).1) ?_
          show Steps p.tables e below (T25.setTop (mkF m 26 #[.val (.ref oa), .val (.long qs), .second, .val (.long hd1_20), .second, .val (.int (2 : Int32))] [])) _
          refine XS.lloadN X25.here hx rfl (hb hby d3_26) rfl ?_
          show Steps p.tables e below (T25.setTop (mkF m 27 #[.val (.ref oa), .val (.long qs), .second, .val (.long hd1_20), .second, .val (.int (2 : Int32))] [(.long hd1_20)])) _
          refine XS.aloadN X25.here hx rfl (hb hby d3_27) rfl rfl ?_
          show Steps p.tables e below (T25.setTop (mkF m 28 #[.val (.ref oa), .val (.long qs), .second, .val (.long hd1_20), .second, .val (.int (2 : Int32))] [(.ref oa), (.long hd1_20)])) _
          refine st29 _ ?_
          show Steps p.tables e below (T29.setTop (mkF m 31 #[.val (.ref oa), .val (.long qs), .second, .val (.long hd1_20), .second, .val (.int (2 : Int32))] [(.ref ca), (.long hd1_20)])) _
          refine XS.iload X29.here hx rfl (hb hby d3_31) rfl ?_
          show Steps p.tables e below (T29.setTop (mkF m 33 #[.val (.ref oa), .val (.long qs), .second, .val (.long hd1_20), .second, .val (.int (2 : Int32))] [(.int (2 : Int32)), (.ref ca), (.long hd1_20)])) _
          refine X29.laload hx (j := (2 : Int32)) (v := (.long c2)) (by rw [e29]; exact Ar30.1) (State.isArrayOf_alike hZ.alike Ar30.2.1) Ar30.2.2 hin30 hat30 (g := (mkF m 33 #[.val (.ref oa), .val (.long qs), .second, .val (.long hd1_20), .second, .val (.int (2 : Int32))] [(.int (2 : Int32)), (.ref ca), (.long hd1_20)])) rfl rfl (hb hby d3_33) _ ?_
          show Steps p.tables e below (T29.setTop (mkF m 34 #[.val (.ref oa), .val (.long qs), .second, .val (.long hd1_20), .second, .val (.int (2 : Int32))] [(.long c2), (.long hd1_20)])) _
          refine XS.ladd X29.here hx rfl (hb hby d3_34) rfl ?_
          show Steps p.tables e below (T29.setTop (mkF m 35 #[.val (.ref oa), .val (.long qs), .second, .val (.long hd1_20), .second, .val (.int (2 : Int32))] [(.long (hd1_20 + c2))])) _
          refine XS.lstoreN X29.here hx rfl (hb hby d3_35) rfl (l' := #[.val (.ref oa), .val (.long qs), .second, .val (.long (hd1_20 + c2)), .second, .val (.int (2 : Int32))]) rfl ?_
          exact kt
        obtain ⟨hd2_31, hhd2_31⟩ : ∃ z : Int64, z = (hd1_20 + c2) := ⟨_, rfl⟩
        have ihd2_31 : hd2_31.toInt = c0.toInt + c1.toInt + c2.toInt := by rw [hhd2_31]; have := rng64 hd1_20; have := rng64 c2; have : (((hd1_20 + c2)).toInt - (hd1_20.toInt + c2.toInt)) % 18446744073709551616 = 0 := c_ladd hd1_20 c2; have := rng64 (hd1_20 + c2); omega
        have pre33 : ∀ t, Steps p.tables e below (T29.setTop (mkF m 36 #[.val (.ref oa), .val (.long qs), .second, .val (.long hd2_31), .second, .val (.int (2 : Int32))] [])) t → Steps p.tables e below (s₁.setTop (entryFrame m #[(.ref oa), (.long qs)] 6)) t := by rw [hhd2_31]; exact pre32
        obtain ⟨T34, X34, e34, st34⟩ := getF X29 hx hZ hown (host := "") (Or.inl (hw _ (List.mem_of_getElem? (i := 19) rfl))) Via.refl e29 F2 (g := (mkF m 8 #[.val (.ref oa), .val (.long qs), .second, .val (.long hd2_31), .second, .val (.int (3 : Int32))] [(.ref oa), (.int (3 : Int32))])) rfl rfl (hb hby d3_8)
        have hc11_35 : ¬ ((3 : Int) < (3 : Int)) := by decide
        obtain ⟨fs, hr, hrun, hended, hW, hsame⟩ := X34.leave (v := some (.long hd2_31)) (fun h => by rw [Bd.returns] at h; cases h)
        refine ⟨_, _, pre33 _ ?_, hrun, hended, _, _, rfl, ?_, ⟨_, rfl⟩, hW, hsame.mono (by decide) (by decide)⟩
        · show Steps p.tables e below (T29.setTop (mkF m 36 #[.val (.ref oa), .val (.long qs), .second, .val (.long hd2_31), .second, .val (.int (2 : Int32))] [])) _
          refine XS.iinc X29.here hx rfl (hb hby d3_36) rfl (l' := #[.val (.ref oa), .val (.long qs), .second, .val (.long hd2_31), .second, .val (.int (3 : Int32))]) rfl ?_
          show Steps p.tables e below (T29.setTop (mkF m 39 #[.val (.ref oa), .val (.long qs), .second, .val (.long hd2_31), .second, .val (.int (3 : Int32))] [])) _
          refine XS.goto X29.here hx rfl (pc0 := 39) (pc' := 5) rfl (hb hby d3_39) (by decide) (by decide) ?_
          show Steps p.tables e below (T29.setTop (mkF m 5 #[.val (.ref oa), .val (.long qs), .second, .val (.long hd2_31), .second, .val (.int (3 : Int32))] [])) _
          refine XS.iload X29.here hx rfl (hb hby d3_5) rfl ?_
          show Steps p.tables e below (T29.setTop (mkF m 7 #[.val (.ref oa), .val (.long qs), .second, .val (.long hd2_31), .second, .val (.int (3 : Int32))] [(.int (3 : Int32))])) _
          refine XS.aloadN X29.here hx rfl (hb hby d3_7) rfl rfl ?_
          show Steps p.tables e below (T29.setTop (mkF m 8 #[.val (.ref oa), .val (.long qs), .second, .val (.long hd2_31), .second, .val (.int (3 : Int32))] [(.ref oa), (.int (3 : Int32))])) _
          refine st34 _ ?_
          show Steps p.tables e below (T34.setTop (mkF m 11 #[.val (.ref oa), .val (.long qs), .second, .val (.long hd2_31), .second, .val (.int (3 : Int32))] [(.int (3 : Int32)), (.int (3 : Int32))])) _
          refine XS.icmpYes X34.here hx rfl (pc0 := 11) (pc' := 42) rfl (hb hby d3_11) rfl (own_flt (a := (3 : Int32)) (b := (3 : Int32)) (by decide) (by decide) hc11_35).2.1 (by decide) (by decide) ?_
          show Steps p.tables e below (T34.setTop (mkF m 42 #[.val (.ref oa), .val (.long qs), .second, .val (.long hd2_31), .second, .val (.int (3 : Int32))] [])) _
          refine XS.lloadN X34.here hx rfl (hb hby d3_42) rfl ?_
          show Steps p.tables e below (T34.setTop (mkF m 43 #[.val (.ref oa), .val (.long qs), .second, .val (.long hd2_31), .second, .val (.int (3 : Int32))] [(.long hd2_31)])) _
          jvm_step X34.here [X34.here.top, hx, (hb hby d3_43), X34.method', Bd.returns, narrow]
          first | (intro acts; rw [hr _ acts rfl rfl rfl]) | rw [hr _ _ rfl rfl rfl]
          exact Steps.refl _
        · show Q_h3 Z oa qs ea ca kE kC x0 x1 x2 c0 c1 c2 h0 n0 _ T34.heap _
          rw [e34]
          exact ⟨_, rfl, by rw [own_fp (x := x0.toInt) (by omega)]; rw [own_fp (x := x1.toInt) (by omega)]; rw [own_fp (x := x2.toInt) (by omega)]; omega, N0, rfl⟩
theorem pn_2 : plainName "com/example/foreslot/foreslot/CountsByEndHeldUntilAtLatestPinLaw" = true := by first | (simp [plainName, overriddenIn]; done) | decide +kernel
theorem ef_rm0 (m : MethodId) (x0 : Int64) (x1 : Int64) (x2 : Int64) (x3 : Int64) (x4 : Int32) (x5 : Int32) : entryFrame m #[(.long x0), (.long x1), (.long x2), (.long x3), (.int x4), (.int x5)] maxLocals = mkF m 0 #[.val (.long x0), .second, .val (.long x1), .second, .val (.long x2), .second, .val (.long x3), .second, .val (.int x4), .val (.int x5), .unset, .unset, .unset, .unset, .unset, .unset, .unset, .unset, .unset, .unset] [] := by first | (simp [entryFrame, mkF, argsToLocals, Value.category, maxLocals]; done) | rfl
theorem pd_2 : parseMethodDescriptor "()V" = some ⟨[], none⟩ := by decide +kernel
theorem pd_3 : parseMethodDescriptor "(J)J" = some ⟨[.long], some .long⟩ := by decide +kernel
theorem pd_4 : parseMethodDescriptor "(JJ)V" = some ⟨[.long, .long], none⟩ := by decide +kernel
def Q0 (Z : State) (qa : Int64) (qb : Int64) (qd : Int64) (qs : Int64) (vc : Int32) (vk : Int32) (h0 : Heap) (n0 : Nat) (v : Option Value) (h : Heap) (L : List Loc) : Prop := v = some (.int 1) ∧ Fr n0 L
set_option maxRecDepth 65536 in
set_option maxHeartbeats 40000000 in
theorem rm0 (l : Launch) (Z : State) (a0 : Array Value) (hw : ∀ d ∈ tables_1, d.before a0 Z = true) (ws : List Jvm.Cond) (qa : Int64) (qb : Int64) (qd : Int64) (qs : Int64) (vc : Int32) (vk : Int32) (h0 : Heap) (n0 : Nat) (Z0 : n0 ≤ h0.size) :
    MetFree l x (head1 (Jvm.Cond.code x code maxLocals ret :: ws) room_1) (fun a U => a = #[(.long qa), (.long qb), (.long qd), (.long qs), (.int vc), (.int vk)] ∧ Z.Warmed39 U.vm ∧ U.heap = h0) (fun _ _ _ _ _ => True) (fun _ U o U' => ∃ v L, o = .returned v ∧ Q0 Z qa qb qd qs vc vk h0 n0 v U'.heap L ∧ FrameEnd U o U' L room_1.cells room_1.slots) := by
  refine MetFree.of_bodySF (plainFor_of_name pn_2) hisR ?_
  intro p e s m args below meth c s₁ Bd hml0 hP hK
  obtain ⟨rfl, hZ, hh⟩ := hP
  have hx := Bd.exec
  have hby := Bd.bytes
  have hml : c.maxLocals = 20 := hml0
  have hown : s.vm.findClass "com/example/foreslot/foreslot/CountsByEndHeldUntilAtLatestPinLaw" = some m.cls := findClass_of_methodNamed Bd.named
  have hnm := (name_of_methodNamed Bd.named Bd.method).1
  have X0 : Stand p l e room_1 s m #[(.long qa), (.long qb), (.long qd), (.long qs), (.int vc), (.int vk)] below meth c s₁ [] 0 0 := Stand.of_body Bd
  have e0 : s₁.heap = h0 := by rw [← hh, Bd.state]; rfl
  have N0 := Fr.nil n0
  have pre0 : ∀ t, Steps p.tables e below (s₁.setTop (mkF m 0 #[.val (.long qa), .second, .val (.long qb), .second, .val (.long qd), .second, .val (.long qs), .second, .val (.int vc), .val (.int vk), .unset, .unset, .unset, .unset, .unset, .unset, .unset, .unset, .unset, .unset] [])) t → Steps p.tables e below (s₁.setTop (entryFrame m #[(.long qa), (.long qb), (.long qd), (.long qs), (.int vc), (.int vk)] maxLocals)) t := fun t k => castTop (ef_rm0 m qa qb qd qs vc vk) k
  have pre1 : ∀ t, Steps p.tables e below (s₁.setTop (mkF m 4 #[.val (.long qa), .second, .val (.long qb), .second, .val (.long qd), .second, .val (.long qs), .second, .val (.int vc), .val (.int vk), .unset, .unset, .unset, .unset, .unset, .unset, .unset, .unset, .unset, .unset] [(.int (vk &&& (3 : Int32)))])) t → Steps p.tables e below (s₁.setTop (entryFrame m #[(.long qa), (.long qb), (.long qd), (.long qs), (.int vc), (.int vk)] maxLocals)) t := fun t kt => by
    refine pre0 _ ?_
    show Steps p.tables e below (s₁.setTop (mkF m 0 #[.val (.long qa), .second, .val (.long qb), .second, .val (.long qd), .second, .val (.long qs), .second, .val (.int vc), .val (.int vk), .unset, .unset, .unset, .unset, .unset, .unset, .unset, .unset, .unset, .unset] [])) _
    refine XS.iload X0.here hx rfl (hb hby at_0) rfl ?_
    show Steps p.tables e below (s₁.setTop (mkF m 2 #[.val (.long qa), .second, .val (.long qb), .second, .val (.long qd), .second, .val (.long qs), .second, .val (.int vc), .val (.int vk), .unset, .unset, .unset, .unset, .unset, .unset, .unset, .unset, .unset, .unset] [(.int vk)])) _
    refine XS.iconst X0.here hx rfl (hb hby at_2) ?_
    show Steps p.tables e below (s₁.setTop (mkF m 3 #[.val (.long qa), .second, .val (.long qb), .second, .val (.long qd), .second, .val (.long qs), .second, .val (.int vc), .val (.int vk), .unset, .unset, .unset, .unset, .unset, .unset, .unset, .unset, .unset, .unset] [(.int (3 : Int32)), (.int vk)])) _
    refine XS.iand X0.here hx rfl (hb hby at_3) rfl ?_
    exact kt
  obtain ⟨nk, hnk⟩ : ∃ z : Int32, z = (vk &&& (3 : Int32)) := ⟨_, rfl⟩
  have ink : nk.toInt = vk.toInt % 4 := by rw [hnk]; have := rng32 vk; have : ((vk &&& (3 : Int32))).toInt = vk.toInt % 4 := c_mask vk (3 : Int32) 2 (by decide) (by decide); omega
  have pre2 : ∀ t, Steps p.tables e below (s₁.setTop (mkF m 4 #[.val (.long qa), .second, .val (.long qb), .second, .val (.long qd), .second, .val (.long qs), .second, .val (.int vc), .val (.int vk), .unset, .unset, .unset, .unset, .unset, .unset, .unset, .unset, .unset, .unset] [(.int nk)])) t → Steps p.tables e below (s₁.setTop (entryFrame m #[(.long qa), (.long qb), (.long qd), (.long qs), (.int vc), (.int vk)] maxLocals)) t := by rw [hnk]; exact pre1
  have pre3 : ∀ t, Steps p.tables e below (s₁.setTop (mkF m 15 #[.val (.long qa), .second, .val (.long qb), .second, .val (.long qd), .second, .val (.long qs), .second, .val (.int vc), .val (.int vk), .val (.int nk), .unset, .unset, .unset, .unset, .unset, .unset, .unset, .unset, .unset] [(.long (((vc &&& (255 : Int32)).toInt64) + (1 : Int64)))])) t → Steps p.tables e below (s₁.setTop (entryFrame m #[(.long qa), (.long qb), (.long qd), (.long qs), (.int vc), (.int vk)] maxLocals)) t := fun t kt => by
    refine pre2 _ ?_
    show Steps p.tables e below (s₁.setTop (mkF m 4 #[.val (.long qa), .second, .val (.long qb), .second, .val (.long qd), .second, .val (.long qs), .second, .val (.int vc), .val (.int vk), .unset, .unset, .unset, .unset, .unset, .unset, .unset, .unset, .unset, .unset] [(.int nk)])) _
    refine XS.istore X0.here hx rfl (hb hby at_4) rfl (l' := #[.val (.long qa), .second, .val (.long qb), .second, .val (.long qd), .second, .val (.long qs), .second, .val (.int vc), .val (.int vk), .val (.int nk), .unset, .unset, .unset, .unset, .unset, .unset, .unset, .unset, .unset]) rfl ?_
    show Steps p.tables e below (s₁.setTop (mkF m 6 #[.val (.long qa), .second, .val (.long qb), .second, .val (.long qd), .second, .val (.long qs), .second, .val (.int vc), .val (.int vk), .val (.int nk), .unset, .unset, .unset, .unset, .unset, .unset, .unset, .unset, .unset] [])) _
    refine XS.iload X0.here hx rfl (hb hby at_6) rfl ?_
    show Steps p.tables e below (s₁.setTop (mkF m 8 #[.val (.long qa), .second, .val (.long qb), .second, .val (.long qd), .second, .val (.long qs), .second, .val (.int vc), .val (.int vk), .val (.int nk), .unset, .unset, .unset, .unset, .unset, .unset, .unset, .unset, .unset] [(.int vc)])) _
    refine XS.sipush X0.here hx rfl (hb hby at_8) ?_
    show Steps p.tables e below (s₁.setTop (mkF m 11 #[.val (.long qa), .second, .val (.long qb), .second, .val (.long qd), .second, .val (.long qs), .second, .val (.int vc), .val (.int vk), .val (.int nk), .unset, .unset, .unset, .unset, .unset, .unset, .unset, .unset, .unset] [(.int (255 : Int32)), (.int vc)])) _
    refine XS.iand X0.here hx rfl (hb hby at_11) rfl ?_
    show Steps p.tables e below (s₁.setTop (mkF m 12 #[.val (.long qa), .second, .val (.long qb), .second, .val (.long qd), .second, .val (.long qs), .second, .val (.int vc), .val (.int vk), .val (.int nk), .unset, .unset, .unset, .unset, .unset, .unset, .unset, .unset, .unset] [(.int (vc &&& (255 : Int32)))])) _
    refine XS.i2l X0.here hx rfl (hb hby at_12) rfl ?_
    show Steps p.tables e below (s₁.setTop (mkF m 13 #[.val (.long qa), .second, .val (.long qb), .second, .val (.long qd), .second, .val (.long qs), .second, .val (.int vc), .val (.int vk), .val (.int nk), .unset, .unset, .unset, .unset, .unset, .unset, .unset, .unset, .unset] [(.long ((vc &&& (255 : Int32)).toInt64))])) _
    refine XS.lconst X0.here hx rfl (hb hby at_13) ?_
    show Steps p.tables e below (s₁.setTop (mkF m 14 #[.val (.long qa), .second, .val (.long qb), .second, .val (.long qd), .second, .val (.long qs), .second, .val (.int vc), .val (.int vk), .val (.int nk), .unset, .unset, .unset, .unset, .unset, .unset, .unset, .unset, .unset] [(.long (1 : Int64)), (.long ((vc &&& (255 : Int32)).toInt64))])) _
    refine XS.ladd X0.here hx rfl (hb hby at_14) rfl ?_
    exact kt
  obtain ⟨q1, hq1⟩ : ∃ z : Int64, z = (((vc &&& (255 : Int32)).toInt64) + (1 : Int64)) := ⟨_, rfl⟩
  have pre4 : ∀ t, Steps p.tables e below (s₁.setTop (mkF m 15 #[.val (.long qa), .second, .val (.long qb), .second, .val (.long qd), .second, .val (.long qs), .second, .val (.int vc), .val (.int vk), .val (.int nk), .unset, .unset, .unset, .unset, .unset, .unset, .unset, .unset, .unset] [(.long q1)])) t → Steps p.tables e below (s₁.setTop (entryFrame m #[(.long qa), (.long qb), (.long qd), (.long qs), (.int vc), (.int vk)] maxLocals)) t := by rw [hq1]; exact pre3
  have jq1 : 1 ≤ q1.toInt ∧ q1.toInt ≤ 256 := by rw [hq1]; have := rng32 vc; have : ((vc &&& (255 : Int32))).toInt = vc.toInt % 256 := c_mask vc (255 : Int32) 8 (by decide) (by decide); have := c_i2l (vc &&& (255 : Int32)); have : (((((vc &&& (255 : Int32)).toInt64) + (1 : Int64))).toInt - (((vc &&& (255 : Int32)).toInt64).toInt + (1 : Int))) % 18446744073709551616 = 0 := c_ladd ((vc &&& (255 : Int32)).toInt64) (1 : Int64); have := rng64 (((vc &&& (255 : Int32)).toInt64) + (1 : Int64)); omega
  have pre5 : ∀ t, Steps p.tables e below (s₁.setTop (mkF m 29 #[.val (.long qa), .second, .val (.long qb), .second, .val (.long qd), .second, .val (.long qs), .second, .val (.int vc), .val (.int vk), .val (.int nk), .val (.long q1), .second, .unset, .unset, .unset, .unset, .unset, .unset, .unset] [(.long (((((vc.toUInt32 >>> ((8 : Int32) &&& 31).toUInt32).toInt32) &&& (255 : Int32)).toInt64) + (1 : Int64)))])) t → Steps p.tables e below (s₁.setTop (entryFrame m #[(.long qa), (.long qb), (.long qd), (.long qs), (.int vc), (.int vk)] maxLocals)) t := fun t kt => by
    refine pre4 _ ?_
    show Steps p.tables e below (s₁.setTop (mkF m 15 #[.val (.long qa), .second, .val (.long qb), .second, .val (.long qd), .second, .val (.long qs), .second, .val (.int vc), .val (.int vk), .val (.int nk), .unset, .unset, .unset, .unset, .unset, .unset, .unset, .unset, .unset] [(.long q1)])) _
    refine XS.lstore X0.here hx rfl (hb hby at_15) rfl (l' := #[.val (.long qa), .second, .val (.long qb), .second, .val (.long qd), .second, .val (.long qs), .second, .val (.int vc), .val (.int vk), .val (.int nk), .val (.long q1), .second, .unset, .unset, .unset, .unset, .unset, .unset, .unset]) rfl ?_
    show Steps p.tables e below (s₁.setTop (mkF m 17 #[.val (.long qa), .second, .val (.long qb), .second, .val (.long qd), .second, .val (.long qs), .second, .val (.int vc), .val (.int vk), .val (.int nk), .val (.long q1), .second, .unset, .unset, .unset, .unset, .unset, .unset, .unset] [])) _
    refine XS.iload X0.here hx rfl (hb hby at_17) rfl ?_
    show Steps p.tables e below (s₁.setTop (mkF m 19 #[.val (.long qa), .second, .val (.long qb), .second, .val (.long qd), .second, .val (.long qs), .second, .val (.int vc), .val (.int vk), .val (.int nk), .val (.long q1), .second, .unset, .unset, .unset, .unset, .unset, .unset, .unset] [(.int vc)])) _
    refine XS.bipush X0.here hx rfl (hb hby at_19) ?_
    show Steps p.tables e below (s₁.setTop (mkF m 21 #[.val (.long qa), .second, .val (.long qb), .second, .val (.long qd), .second, .val (.long qs), .second, .val (.int vc), .val (.int vk), .val (.int nk), .val (.long q1), .second, .unset, .unset, .unset, .unset, .unset, .unset, .unset] [(.int (8 : Int32)), (.int vc)])) _
    refine XS.iushr X0.here hx rfl (hb hby at_21) rfl ?_
    show Steps p.tables e below (s₁.setTop (mkF m 22 #[.val (.long qa), .second, .val (.long qb), .second, .val (.long qd), .second, .val (.long qs), .second, .val (.int vc), .val (.int vk), .val (.int nk), .val (.long q1), .second, .unset, .unset, .unset, .unset, .unset, .unset, .unset] [(.int ((vc.toUInt32 >>> ((8 : Int32) &&& 31).toUInt32).toInt32))])) _
    refine XS.sipush X0.here hx rfl (hb hby at_22) ?_
    show Steps p.tables e below (s₁.setTop (mkF m 25 #[.val (.long qa), .second, .val (.long qb), .second, .val (.long qd), .second, .val (.long qs), .second, .val (.int vc), .val (.int vk), .val (.int nk), .val (.long q1), .second, .unset, .unset, .unset, .unset, .unset, .unset, .unset] [(.int (255 : Int32)), (.int ((vc.toUInt32 >>> ((8 : Int32) &&& 31).toUInt32).toInt32))])) _
    refine XS.iand X0.here hx rfl (hb hby at_25) rfl ?_
    show Steps p.tables e below (s₁.setTop (mkF m 26 #[.val (.long qa), .second, .val (.long qb), .second, .val (.long qd), .second, .val (.long qs), .second, .val (.int vc), .val (.int vk), .val (.int nk), .val (.long q1), .second, .unset, .unset, .unset, .unset, .unset, .unset, .unset] [(.int (((vc.toUInt32 >>> ((8 : Int32) &&& 31).toUInt32).toInt32) &&& (255 : Int32)))])) _
    refine XS.i2l X0.here hx rfl (hb hby at_26) rfl ?_
    show Steps p.tables e below (s₁.setTop (mkF m 27 #[.val (.long qa), .second, .val (.long qb), .second, .val (.long qd), .second, .val (.long qs), .second, .val (.int vc), .val (.int vk), .val (.int nk), .val (.long q1), .second, .unset, .unset, .unset, .unset, .unset, .unset, .unset] [(.long ((((vc.toUInt32 >>> ((8 : Int32) &&& 31).toUInt32).toInt32) &&& (255 : Int32)).toInt64))])) _
    refine XS.lconst X0.here hx rfl (hb hby at_27) ?_
    show Steps p.tables e below (s₁.setTop (mkF m 28 #[.val (.long qa), .second, .val (.long qb), .second, .val (.long qd), .second, .val (.long qs), .second, .val (.int vc), .val (.int vk), .val (.int nk), .val (.long q1), .second, .unset, .unset, .unset, .unset, .unset, .unset, .unset] [(.long (1 : Int64)), (.long ((((vc.toUInt32 >>> ((8 : Int32) &&& 31).toUInt32).toInt32) &&& (255 : Int32)).toInt64))])) _
    refine XS.ladd X0.here hx rfl (hb hby at_28) rfl ?_
    exact kt
  obtain ⟨q2, hq2⟩ : ∃ z : Int64, z = (((((vc.toUInt32 >>> ((8 : Int32) &&& 31).toUInt32).toInt32) &&& (255 : Int32)).toInt64) + (1 : Int64)) := ⟨_, rfl⟩
  have pre6 : ∀ t, Steps p.tables e below (s₁.setTop (mkF m 29 #[.val (.long qa), .second, .val (.long qb), .second, .val (.long qd), .second, .val (.long qs), .second, .val (.int vc), .val (.int vk), .val (.int nk), .val (.long q1), .second, .unset, .unset, .unset, .unset, .unset, .unset, .unset] [(.long q2)])) t → Steps p.tables e below (s₁.setTop (entryFrame m #[(.long qa), (.long qb), (.long qd), (.long qs), (.int vc), (.int vk)] maxLocals)) t := by rw [hq2]; exact pre5
  have jq2 : 1 ≤ q2.toInt ∧ q2.toInt ≤ 256 := by rw [hq2]; have := rng32 vc; have : (((vc.toUInt32 >>> ((8 : Int32) &&& 31).toUInt32).toInt32)).toInt = (vc.toInt % 4294967296) / 256 := c_iushr vc (8 : Int32) 8 (by decide) (by decide); have : ((((vc.toUInt32 >>> ((8 : Int32) &&& 31).toUInt32).toInt32) &&& (255 : Int32))).toInt = ((vc.toUInt32 >>> ((8 : Int32) &&& 31).toUInt32).toInt32).toInt % 256 := c_mask ((vc.toUInt32 >>> ((8 : Int32) &&& 31).toUInt32).toInt32) (255 : Int32) 8 (by decide) (by decide); have := c_i2l (((vc.toUInt32 >>> ((8 : Int32) &&& 31).toUInt32).toInt32) &&& (255 : Int32)); have : (((((((vc.toUInt32 >>> ((8 : Int32) &&& 31).toUInt32).toInt32) &&& (255 : Int32)).toInt64) + (1 : Int64))).toInt - (((((vc.toUInt32 >>> ((8 : Int32) &&& 31).toUInt32).toInt32) &&& (255 : Int32)).toInt64).toInt + (1 : Int))) % 18446744073709551616 = 0 := c_ladd ((((vc.toUInt32 >>> ((8 : Int32) &&& 31).toUInt32).toInt32) &&& (255 : Int32)).toInt64) (1 : Int64); have := rng64 (((((vc.toUInt32 >>> ((8 : Int32) &&& 31).toUInt32).toInt32) &&& (255 : Int32)).toInt64) + (1 : Int64)); omega
  have pre7 : ∀ t, Steps p.tables e below (s₁.setTop (mkF m 43 #[.val (.long qa), .second, .val (.long qb), .second, .val (.long qd), .second, .val (.long qs), .second, .val (.int vc), .val (.int vk), .val (.int nk), .val (.long q1), .second, .val (.long q2), .second, .unset, .unset, .unset, .unset, .unset] [(.long (((((vc.toUInt32 >>> ((16 : Int32) &&& 31).toUInt32).toInt32) &&& (255 : Int32)).toInt64) + (1 : Int64)))])) t → Steps p.tables e below (s₁.setTop (entryFrame m #[(.long qa), (.long qb), (.long qd), (.long qs), (.int vc), (.int vk)] maxLocals)) t := fun t kt => by
    refine pre6 _ ?_
    show Steps p.tables e below (s₁.setTop (mkF m 29 #[.val (.long qa), .second, .val (.long qb), .second, .val (.long qd), .second, .val (.long qs), .second, .val (.int vc), .val (.int vk), .val (.int nk), .val (.long q1), .second, .unset, .unset, .unset, .unset, .unset, .unset, .unset] [(.long q2)])) _
    refine XS.lstore X0.here hx rfl (hb hby at_29) rfl (l' := #[.val (.long qa), .second, .val (.long qb), .second, .val (.long qd), .second, .val (.long qs), .second, .val (.int vc), .val (.int vk), .val (.int nk), .val (.long q1), .second, .val (.long q2), .second, .unset, .unset, .unset, .unset, .unset]) rfl ?_
    show Steps p.tables e below (s₁.setTop (mkF m 31 #[.val (.long qa), .second, .val (.long qb), .second, .val (.long qd), .second, .val (.long qs), .second, .val (.int vc), .val (.int vk), .val (.int nk), .val (.long q1), .second, .val (.long q2), .second, .unset, .unset, .unset, .unset, .unset] [])) _
    refine XS.iload X0.here hx rfl (hb hby at_31) rfl ?_
    show Steps p.tables e below (s₁.setTop (mkF m 33 #[.val (.long qa), .second, .val (.long qb), .second, .val (.long qd), .second, .val (.long qs), .second, .val (.int vc), .val (.int vk), .val (.int nk), .val (.long q1), .second, .val (.long q2), .second, .unset, .unset, .unset, .unset, .unset] [(.int vc)])) _
    refine XS.bipush X0.here hx rfl (hb hby at_33) ?_
    show Steps p.tables e below (s₁.setTop (mkF m 35 #[.val (.long qa), .second, .val (.long qb), .second, .val (.long qd), .second, .val (.long qs), .second, .val (.int vc), .val (.int vk), .val (.int nk), .val (.long q1), .second, .val (.long q2), .second, .unset, .unset, .unset, .unset, .unset] [(.int (16 : Int32)), (.int vc)])) _
    refine XS.iushr X0.here hx rfl (hb hby at_35) rfl ?_
    show Steps p.tables e below (s₁.setTop (mkF m 36 #[.val (.long qa), .second, .val (.long qb), .second, .val (.long qd), .second, .val (.long qs), .second, .val (.int vc), .val (.int vk), .val (.int nk), .val (.long q1), .second, .val (.long q2), .second, .unset, .unset, .unset, .unset, .unset] [(.int ((vc.toUInt32 >>> ((16 : Int32) &&& 31).toUInt32).toInt32))])) _
    refine XS.sipush X0.here hx rfl (hb hby at_36) ?_
    show Steps p.tables e below (s₁.setTop (mkF m 39 #[.val (.long qa), .second, .val (.long qb), .second, .val (.long qd), .second, .val (.long qs), .second, .val (.int vc), .val (.int vk), .val (.int nk), .val (.long q1), .second, .val (.long q2), .second, .unset, .unset, .unset, .unset, .unset] [(.int (255 : Int32)), (.int ((vc.toUInt32 >>> ((16 : Int32) &&& 31).toUInt32).toInt32))])) _
    refine XS.iand X0.here hx rfl (hb hby at_39) rfl ?_
    show Steps p.tables e below (s₁.setTop (mkF m 40 #[.val (.long qa), .second, .val (.long qb), .second, .val (.long qd), .second, .val (.long qs), .second, .val (.int vc), .val (.int vk), .val (.int nk), .val (.long q1), .second, .val (.long q2), .second, .unset, .unset, .unset, .unset, .unset] [(.int (((vc.toUInt32 >>> ((16 : Int32) &&& 31).toUInt32).toInt32) &&& (255 : Int32)))])) _
    refine XS.i2l X0.here hx rfl (hb hby at_40) rfl ?_
    show Steps p.tables e below (s₁.setTop (mkF m 41 #[.val (.long qa), .second, .val (.long qb), .second, .val (.long qd), .second, .val (.long qs), .second, .val (.int vc), .val (.int vk), .val (.int nk), .val (.long q1), .second, .val (.long q2), .second, .unset, .unset, .unset, .unset, .unset] [(.long ((((vc.toUInt32 >>> ((16 : Int32) &&& 31).toUInt32).toInt32) &&& (255 : Int32)).toInt64))])) _
    refine XS.lconst X0.here hx rfl (hb hby at_41) ?_
    show Steps p.tables e below (s₁.setTop (mkF m 42 #[.val (.long qa), .second, .val (.long qb), .second, .val (.long qd), .second, .val (.long qs), .second, .val (.int vc), .val (.int vk), .val (.int nk), .val (.long q1), .second, .val (.long q2), .second, .unset, .unset, .unset, .unset, .unset] [(.long (1 : Int64)), (.long ((((vc.toUInt32 >>> ((16 : Int32) &&& 31).toUInt32).toInt32) &&& (255 : Int32)).toInt64))])) _
    refine XS.ladd X0.here hx rfl (hb hby at_42) rfl ?_
    exact kt
  obtain ⟨q3, hq3⟩ : ∃ z : Int64, z = (((((vc.toUInt32 >>> ((16 : Int32) &&& 31).toUInt32).toInt32) &&& (255 : Int32)).toInt64) + (1 : Int64)) := ⟨_, rfl⟩
  have pre8 : ∀ t, Steps p.tables e below (s₁.setTop (mkF m 43 #[.val (.long qa), .second, .val (.long qb), .second, .val (.long qd), .second, .val (.long qs), .second, .val (.int vc), .val (.int vk), .val (.int nk), .val (.long q1), .second, .val (.long q2), .second, .unset, .unset, .unset, .unset, .unset] [(.long q3)])) t → Steps p.tables e below (s₁.setTop (entryFrame m #[(.long qa), (.long qb), (.long qd), (.long qs), (.int vc), (.int vk)] maxLocals)) t := by rw [hq3]; exact pre7
  have jq3 : 1 ≤ q3.toInt ∧ q3.toInt ≤ 256 := by rw [hq3]; have := rng32 vc; have : (((vc.toUInt32 >>> ((16 : Int32) &&& 31).toUInt32).toInt32)).toInt = (vc.toInt % 4294967296) / 65536 := c_iushr vc (16 : Int32) 16 (by decide) (by decide); have : ((((vc.toUInt32 >>> ((16 : Int32) &&& 31).toUInt32).toInt32) &&& (255 : Int32))).toInt = ((vc.toUInt32 >>> ((16 : Int32) &&& 31).toUInt32).toInt32).toInt % 256 := c_mask ((vc.toUInt32 >>> ((16 : Int32) &&& 31).toUInt32).toInt32) (255 : Int32) 8 (by decide) (by decide); have := c_i2l (((vc.toUInt32 >>> ((16 : Int32) &&& 31).toUInt32).toInt32) &&& (255 : Int32)); have : (((((((vc.toUInt32 >>> ((16 : Int32) &&& 31).toUInt32).toInt32) &&& (255 : Int32)).toInt64) + (1 : Int64))).toInt - (((((vc.toUInt32 >>> ((16 : Int32) &&& 31).toUInt32).toInt32) &&& (255 : Int32)).toInt64).toInt + (1 : Int))) % 18446744073709551616 = 0 := c_ladd ((((vc.toUInt32 >>> ((16 : Int32) &&& 31).toUInt32).toInt32) &&& (255 : Int32)).toInt64) (1 : Int64); have := rng64 (((((vc.toUInt32 >>> ((16 : Int32) &&& 31).toUInt32).toInt32) &&& (255 : Int32)).toInt64) + (1 : Int64)); omega
  obtain ⟨T9, h9, X9, e9, E9, A9, D9, -, st9⟩ := newO X0 hx hZ hown (hw _ (List.mem_of_getElem? (i := 0) rfl)) (hw _ (List.mem_of_getElem? (i := 1) rfl)) (hw _ (List.mem_of_getElem? (i := 2) rfl)) e0 (g := (mkF m 45 #[.val (.long qa), .second, .val (.long qb), .second, .val (.long qd), .second, .val (.long qs), .second, .val (.int vc), .val (.int vk), .val (.int nk), .val (.long q1), .second, .val (.long q2), .second, .val (.long q3), .second, .unset, .unset, .unset] [])) rfl (hb hby at_45) (by decide) (by decide)
  obtain ⟨b9, g9⟩ : ∃ z, z = h0.size := ⟨_, rfl⟩
  have g_b9 : n0 ≤ b9 := Nat.le_trans Z0 (Nat.le_of_eq g9.symm)
  have sz_b9 : h0.size ≤ b9 := Nat.le_trans (Keep.refl h0 []).1 (Nat.le_of_eq g9.symm)
  rw [← g9] at A9 D9 st9
  have Zs10 : n0 ≤ h9.size := Nat.le_trans Z0 E9.1
  have F9_ends : Fld Z h9 b9 "com/example/foreslot/foreslot/CountsByEnd" "ends" "[J" .null := D9 (Or.inl (hw _ (List.mem_of_getElem? (i := 11) rfl))) (ty := (.array .long)) (by decide)
  have F9_counts : Fld Z h9 b9 "com/example/foreslot/foreslot/CountsByEnd" "counts" "[J" .null := D9 (Or.inl (hw _ (List.mem_of_getElem? (i := 13) rfl))) (ty := (.array .long)) (by decide)
  have F9_size : Fld Z h9 b9 "com/example/foreslot/foreslot/CountsByEnd" "size" "I" (.int (0 : Int32)) := D9 (Or.inl (hw _ (List.mem_of_getElem? (i := 20) rfl))) (ty := .int) (by decide)
  obtain ⟨_, _, ⟨T11, L11, k11, n11⟩, -, X11, ⟨Lc11, hQ11, l11, y11, z11⟩, st11⟩ := X9.specialBack hx (y := (⟨"com/example/foreslot/foreslot/CountsByEnd", "<init>", "()V"⟩ : MethodName)) rfl hown (mvT hZ (hw _ (List.mem_of_getElem? (i := 3) rfl))) (mvT hZ (hw _ (List.mem_of_getElem? (i := 4) rfl))) (mvT hZ (hw _ (List.mem_of_getElem? (i := 5) rfl))) (by decide) (backOf (W := 1) (rm1 l Z a0 hw [] b9 h9 n0 Zs10 A9 F9_ends F9_counts F9_size g_b9) hZ (hw _ (List.mem_of_getElem? (i := 5) rfl)) (hw _ (List.mem_of_getElem? (i := 2) rfl)) (by decide) (by decide)) (g := (mkF m 49 #[.val (.long qa), .second, .val (.long qb), .second, .val (.long qd), .second, .val (.long qs), .second, .val (.int vc), .val (.int vk), .val (.int nk), .val (.long q1), .second, .val (.long q2), .second, .val (.long q3), .second, .unset, .unset, .unset] [(.ref b9), (.ref b9)])) rfl (by rw [hml]; rfl) (Steps.refl _) (a := b9) (argsL := []) (rest := [(.ref b9)]) (lenOf pd_2 rfl) rfl (by show 2 * 0 + _ ≤ _; exact Nat.le_of_eq rfl) (hb hby at_49) (fun _ _ => ⟨rfl, e9, (by decide : 1 + 2 ≤ _), (by decide : 3 + 32 ≤ _)⟩)
  dsimp only [Pt.U, Pt.locs, Pt.cells, Pt.slots] at X11 l11 y11 z11 st11 hQ11
  subst l11 y11 z11
  obtain ⟨rfl, N11q, K11, A11, ea, ca, kE, kC, ge, gc, nae, nac, nec, se, sc, F0, F1, F2, V0, V1⟩ := hQ11
  have N11 := Fr.app N0 N11q
  have Zs12 : n0 ≤ T11.heap.size := Nat.le_trans Zs10 K11.1
  have pre14 : ∀ t, Steps p.tables e below (T11.setTop (mkF m 60 #[.val (.long qa), .second, .val (.long qb), .second, .val (.long qd), .second, .val (.long qs), .second, .val (.int vc), .val (.int vk), .val (.int nk), .val (.long q1), .second, .val (.long q2), .second, .val (.long q3), .second, .val (.ref b9), .val (.long (0 : Int64)), .second] [(.int (1 : Int32)), (.int nk)])) t → Steps p.tables e below (s₁.setTop (entryFrame m #[(.long qa), (.long qb), (.long qd), (.long qs), (.int vc), (.int vk)] maxLocals)) t := fun t kt => by
    refine pre8 _ ?_
    show Steps p.tables e below (s₁.setTop (mkF m 43 #[.val (.long qa), .second, .val (.long qb), .second, .val (.long qd), .second, .val (.long qs), .second, .val (.int vc), .val (.int vk), .val (.int nk), .val (.long q1), .second, .val (.long q2), .second, .unset, .unset, .unset, .unset, .unset] [(.long q3)])) _
    refine XS.lstore X0.here hx rfl (hb hby at_43) rfl (l' := #[.val (.long qa), .second, .val (.long qb), .second, .val (.long qd), .second, .val (.long qs), .second, .val (.int vc), .val (.int vk), .val (.int nk), .val (.long q1), .second, .val (.long q2), .second, .val (.long q3), .second, .unset, .unset, .unset]) rfl ?_
    show Steps p.tables e below (s₁.setTop (mkF m 45 #[.val (.long qa), .second, .val (.long qb), .second, .val (.long qd), .second, .val (.long qs), .second, .val (.int vc), .val (.int vk), .val (.int nk), .val (.long q1), .second, .val (.long q2), .second, .val (.long q3), .second, .unset, .unset, .unset] [])) _
    refine st9 _ ?_
    show Steps p.tables e below (T9.setTop (mkF m 48 #[.val (.long qa), .second, .val (.long qb), .second, .val (.long qd), .second, .val (.long qs), .second, .val (.int vc), .val (.int vk), .val (.int nk), .val (.long q1), .second, .val (.long q2), .second, .val (.long q3), .second, .unset, .unset, .unset] [(.ref b9)])) _
    refine XS.dup X9.here hx rfl (hb hby at_48) rfl rfl ?_
    show Steps p.tables e below (T9.setTop (mkF m 49 #[.val (.long qa), .second, .val (.long qb), .second, .val (.long qd), .second, .val (.long qs), .second, .val (.int vc), .val (.int vk), .val (.int nk), .val (.long q1), .second, .val (.long q2), .second, .val (.long q3), .second, .unset, .unset, .unset] [(.ref b9), (.ref b9)])) _
    refine st11.trans ?_
    show Steps p.tables e below (T11.setTop (mkF m 52 #[.val (.long qa), .second, .val (.long qb), .second, .val (.long qd), .second, .val (.long qs), .second, .val (.int vc), .val (.int vk), .val (.int nk), .val (.long q1), .second, .val (.long q2), .second, .val (.long q3), .second, .unset, .unset, .unset] [(.ref b9)])) _
    refine XS.astore X11.here hx rfl (hb hby at_52) rfl rfl (l' := #[.val (.long qa), .second, .val (.long qb), .second, .val (.long qd), .second, .val (.long qs), .second, .val (.int vc), .val (.int vk), .val (.int nk), .val (.long q1), .second, .val (.long q2), .second, .val (.long q3), .second, .val (.ref b9), .unset, .unset]) rfl ?_
    show Steps p.tables e below (T11.setTop (mkF m 54 #[.val (.long qa), .second, .val (.long qb), .second, .val (.long qd), .second, .val (.long qs), .second, .val (.int vc), .val (.int vk), .val (.int nk), .val (.long q1), .second, .val (.long q2), .second, .val (.long q3), .second, .val (.ref b9), .unset, .unset] [])) _
    refine XS.lconst X11.here hx rfl (hb hby at_54) ?_
    show Steps p.tables e below (T11.setTop (mkF m 55 #[.val (.long qa), .second, .val (.long qb), .second, .val (.long qd), .second, .val (.long qs), .second, .val (.int vc), .val (.int vk), .val (.int nk), .val (.long q1), .second, .val (.long q2), .second, .val (.long q3), .second, .val (.ref b9), .unset, .unset] [(.long (0 : Int64))])) _
    refine XS.lstore X11.here hx rfl (hb hby at_55) rfl (l' := #[.val (.long qa), .second, .val (.long qb), .second, .val (.long qd), .second, .val (.long qs), .second, .val (.int vc), .val (.int vk), .val (.int nk), .val (.long q1), .second, .val (.long q2), .second, .val (.long q3), .second, .val (.ref b9), .val (.long (0 : Int64)), .second]) rfl ?_
    show Steps p.tables e below (T11.setTop (mkF m 57 #[.val (.long qa), .second, .val (.long qb), .second, .val (.long qd), .second, .val (.long qs), .second, .val (.int vc), .val (.int vk), .val (.int nk), .val (.long q1), .second, .val (.long q2), .second, .val (.long q3), .second, .val (.ref b9), .val (.long (0 : Int64)), .second] [])) _
    refine XS.iload X11.here hx rfl (hb hby at_57) rfl ?_
    show Steps p.tables e below (T11.setTop (mkF m 59 #[.val (.long qa), .second, .val (.long qb), .second, .val (.long qd), .second, .val (.long qs), .second, .val (.int vc), .val (.int vk), .val (.int nk), .val (.long q1), .second, .val (.long q2), .second, .val (.long q3), .second, .val (.ref b9), .val (.long (0 : Int64)), .second] [(.int nk)])) _
    refine XS.iconst X11.here hx rfl (hb hby at_59) ?_
    exact kt
  by_cases hc60_13 : nk.toInt < (1 : Int)
  · have hc88_15 : nk.toInt < (2 : Int) := by omega
    have hc116_16 : nk.toInt < (3 : Int) := by omega
    obtain ⟨cq17, kq17, q17a, q17b, q17c⟩ := isOf hZ rfl A11
    obtain ⟨_, _, ⟨T17, L17, k17, n17⟩, -, X17, ⟨Lc17, hQ17, l17, y17, z17⟩, st17⟩ := X11.virtualBack hx (y := (⟨"com/example/foreslot/foreslot/CountsByEnd", "heldUntilAtLatest", "(J)J"⟩ : MethodName)) (z := (⟨"com/example/foreslot/foreslot/CountsByEnd", "heldUntilAtLatest", "(J)J"⟩ : MethodName)) hown (mvT hZ (hw _ (List.mem_of_getElem? (i := 14) rfl))) (mvT hZ (hw _ (List.mem_of_getElem? (i := 15) rfl))) (notFace_of_selects (args := #[]) (mvT hZ (hw _ (List.mem_of_getElem? (i := 17) rfl)))) (mvT hZ (hw _ (List.mem_of_getElem? (i := 17) rfl))) (mvT hZ (hw _ (List.mem_of_getElem? (i := 16) rfl))) (by decide) (backOf (W := 0) (rm_h0 l Z a0 hw [] b9 qs ea ca kE kC T11.heap n0 Zs12 A11 F0 F1 F2 V0 V1 (by omega)) hZ (hw _ (List.mem_of_getElem? (i := 18) rfl)) (hw _ (List.mem_of_getElem? (i := 2) rfl)) (by decide) (by decide)) q17a q17c (g := (mkF m 147 #[.val (.long qa), .second, .val (.long qb), .second, .val (.long qd), .second, .val (.long qs), .second, .val (.int vc), .val (.int vk), .val (.int nk), .val (.long q1), .second, .val (.long q2), .second, .val (.long q3), .second, .val (.ref b9), .val (.long (0 : Int64)), .second] [(.long qs), (.ref b9)])) rfl (by rw [hml]; rfl) (Steps.refl _) (argsL := [(.long qs)]) (rest := []) (lenOf pd_3 rfl) rfl (by show 2 * 0 + _ ≤ _; exact Nat.le_of_eq rfl) (hb hby at_147) (fun _ _ => ⟨rfl, rfl, (by decide : 3 + 0 ≤ _), (by decide : 35 + 0 ≤ _)⟩)
    dsimp only [Pt.U, Pt.locs, Pt.cells, Pt.slots] at X17 l17 y17 z17 st17 hQ17
    subst l17 y17 z17
    obtain ⟨hd, rfl, hhd, N17q, e17⟩ := hQ17
    have N17 := Fr.app N11 N17q
    have hc153_18 : hd.toInt = (0 : Int) := by have iv : (0 : Int64).toInt = 0 := (by decide); omega
    obtain ⟨fs, hr, hrun, hended, hW, hsame⟩ := X17.leave (v := some (.int (1 : Int32))) (fun h => by rw [Bd.returns] at h; cases h)
    refine ⟨_, _, pre14 _ ?_, hrun, hended, _, _, rfl, ?_, ⟨_, rfl⟩, hW, hsame.mono (by decide) (by decide)⟩
    · show Steps p.tables e below (T11.setTop (mkF m 60 #[.val (.long qa), .second, .val (.long qb), .second, .val (.long qd), .second, .val (.long qs), .second, .val (.int vc), .val (.int vk), .val (.int nk), .val (.long q1), .second, .val (.long q2), .second, .val (.long q3), .second, .val (.ref b9), .val (.long (0 : Int64)), .second] [(.int (1 : Int32)), (.int nk)])) _
      refine XS.icmpYes X11.here hx rfl (pc0 := 60) (pc' := 85) rfl (hb hby at_60) rfl (own_tlt (a := nk) (b := (1 : Int32)) rfl (by decide) hc60_13).1 (by decide) (by decide) ?_
      show Steps p.tables e below (T11.setTop (mkF m 85 #[.val (.long qa), .second, .val (.long qb), .second, .val (.long qd), .second, .val (.long qs), .second, .val (.int vc), .val (.int vk), .val (.int nk), .val (.long q1), .second, .val (.long q2), .second, .val (.long q3), .second, .val (.ref b9), .val (.long (0 : Int64)), .second] [])) _
      refine XS.iload X11.here hx rfl (hb hby at_85) rfl ?_
      show Steps p.tables e below (T11.setTop (mkF m 87 #[.val (.long qa), .second, .val (.long qb), .second, .val (.long qd), .second, .val (.long qs), .second, .val (.int vc), .val (.int vk), .val (.int nk), .val (.long q1), .second, .val (.long q2), .second, .val (.long q3), .second, .val (.ref b9), .val (.long (0 : Int64)), .second] [(.int nk)])) _
      refine XS.iconst X11.here hx rfl (hb hby at_87) ?_
      show Steps p.tables e below (T11.setTop (mkF m 88 #[.val (.long qa), .second, .val (.long qb), .second, .val (.long qd), .second, .val (.long qs), .second, .val (.int vc), .val (.int vk), .val (.int nk), .val (.long q1), .second, .val (.long q2), .second, .val (.long q3), .second, .val (.ref b9), .val (.long (0 : Int64)), .second] [(.int (2 : Int32)), (.int nk)])) _
      refine XS.icmpYes X11.here hx rfl (pc0 := 88) (pc' := 113) rfl (hb hby at_88) rfl (own_tlt (a := nk) (b := (2 : Int32)) rfl (by decide) hc88_15).1 (by decide) (by decide) ?_
      show Steps p.tables e below (T11.setTop (mkF m 113 #[.val (.long qa), .second, .val (.long qb), .second, .val (.long qd), .second, .val (.long qs), .second, .val (.int vc), .val (.int vk), .val (.int nk), .val (.long q1), .second, .val (.long q2), .second, .val (.long q3), .second, .val (.ref b9), .val (.long (0 : Int64)), .second] [])) _
      refine XS.iload X11.here hx rfl (hb hby at_113) rfl ?_
      show Steps p.tables e below (T11.setTop (mkF m 115 #[.val (.long qa), .second, .val (.long qb), .second, .val (.long qd), .second, .val (.long qs), .second, .val (.int vc), .val (.int vk), .val (.int nk), .val (.long q1), .second, .val (.long q2), .second, .val (.long q3), .second, .val (.ref b9), .val (.long (0 : Int64)), .second] [(.int nk)])) _
      refine XS.iconst X11.here hx rfl (hb hby at_115) ?_
      show Steps p.tables e below (T11.setTop (mkF m 116 #[.val (.long qa), .second, .val (.long qb), .second, .val (.long qd), .second, .val (.long qs), .second, .val (.int vc), .val (.int vk), .val (.int nk), .val (.long q1), .second, .val (.long q2), .second, .val (.long q3), .second, .val (.ref b9), .val (.long (0 : Int64)), .second] [(.int (3 : Int32)), (.int nk)])) _
      refine XS.icmpYes X11.here hx rfl (pc0 := 116) (pc' := 143) rfl (hb hby at_116) rfl (own_tlt (a := nk) (b := (3 : Int32)) rfl (by decide) hc116_16).1 (by decide) (by decide) ?_
      show Steps p.tables e below (T11.setTop (mkF m 143 #[.val (.long qa), .second, .val (.long qb), .second, .val (.long qd), .second, .val (.long qs), .second, .val (.int vc), .val (.int vk), .val (.int nk), .val (.long q1), .second, .val (.long q2), .second, .val (.long q3), .second, .val (.ref b9), .val (.long (0 : Int64)), .second] [])) _
      refine XS.aload X11.here hx rfl (hb hby at_143) rfl rfl ?_
      show Steps p.tables e below (T11.setTop (mkF m 145 #[.val (.long qa), .second, .val (.long qb), .second, .val (.long qd), .second, .val (.long qs), .second, .val (.int vc), .val (.int vk), .val (.int nk), .val (.long q1), .second, .val (.long q2), .second, .val (.long q3), .second, .val (.ref b9), .val (.long (0 : Int64)), .second] [(.ref b9)])) _
      refine XS.lload X11.here hx rfl (hb hby at_145) rfl ?_
      show Steps p.tables e below (T11.setTop (mkF m 147 #[.val (.long qa), .second, .val (.long qb), .second, .val (.long qd), .second, .val (.long qs), .second, .val (.int vc), .val (.int vk), .val (.int nk), .val (.long q1), .second, .val (.long q2), .second, .val (.long q3), .second, .val (.ref b9), .val (.long (0 : Int64)), .second] [(.long qs), (.ref b9)])) _
      refine st17.trans ?_
      show Steps p.tables e below (T17.setTop (mkF m 150 #[.val (.long qa), .second, .val (.long qb), .second, .val (.long qd), .second, .val (.long qs), .second, .val (.int vc), .val (.int vk), .val (.int nk), .val (.long q1), .second, .val (.long q2), .second, .val (.long q3), .second, .val (.ref b9), .val (.long (0 : Int64)), .second] [(.long hd)])) _
      refine XS.lload X17.here hx rfl (hb hby at_150) rfl ?_
      show Steps p.tables e below (T17.setTop (mkF m 152 #[.val (.long qa), .second, .val (.long qb), .second, .val (.long qd), .second, .val (.long qs), .second, .val (.int vc), .val (.int vk), .val (.int nk), .val (.long q1), .second, .val (.long q2), .second, .val (.long q3), .second, .val (.ref b9), .val (.long (0 : Int64)), .second] [(.long (0 : Int64)), (.long hd)])) _
      refine XS.lcmp X17.here hx rfl (hb hby at_152) rfl ?_
      show Steps p.tables e below (T17.setTop (mkF m 153 #[.val (.long qa), .second, .val (.long qb), .second, .val (.long qd), .second, .val (.long qs), .second, .val (.int vc), .val (.int vk), .val (.int nk), .val (.long q1), .second, .val (.long q2), .second, .val (.long q3), .second, .val (.ref b9), .val (.long (0 : Int64)), .second] [(.int (lcmpW hd (0 : Int64)))])) _
      refine XS.ifNo X17.here hx rfl (hb hby at_153) rfl (own_if (own_teqL (x := hd) (y := (0 : Int64)) rfl (by decide) hc153_18).2) ?_
      show Steps p.tables e below (T17.setTop (mkF m 156 #[.val (.long qa), .second, .val (.long qb), .second, .val (.long qd), .second, .val (.long qs), .second, .val (.int vc), .val (.int vk), .val (.int nk), .val (.long q1), .second, .val (.long q2), .second, .val (.long q3), .second, .val (.ref b9), .val (.long (0 : Int64)), .second] [])) _
      refine XS.iconst X17.here hx rfl (hb hby at_156) ?_
      show Steps p.tables e below (T17.setTop (mkF m 157 #[.val (.long qa), .second, .val (.long qb), .second, .val (.long qd), .second, .val (.long qs), .second, .val (.int vc), .val (.int vk), .val (.int nk), .val (.long q1), .second, .val (.long q2), .second, .val (.long q3), .second, .val (.ref b9), .val (.long (0 : Int64)), .second] [(.int (1 : Int32))])) _
      refine XS.goto X17.here hx rfl (pc0 := 157) (pc' := 161) rfl (hb hby at_157) (by decide) (by decide) ?_
      show Steps p.tables e below (T17.setTop (mkF m 161 #[.val (.long qa), .second, .val (.long qb), .second, .val (.long qd), .second, .val (.long qs), .second, .val (.int vc), .val (.int vk), .val (.int nk), .val (.long q1), .second, .val (.long q2), .second, .val (.long q3), .second, .val (.ref b9), .val (.long (0 : Int64)), .second] [(.int (1 : Int32))])) _
      exact retN X17 hx (t := .boolean) Bd.returns (by simp) (hb hby at_161) hr
    · show Q0 Z qa qb qd qs vc vk h0 n0 _ T17.heap _
      rw [e17]
      exact ⟨rfl, N17⟩
  · obtain ⟨cq19, kq19, q19a, q19b, q19c⟩ := isOf hZ rfl A11
    obtain ⟨_, _, ⟨T19, L19, k19, n19⟩, -, X19, ⟨Lc19, hQ19, l19, y19, z19⟩, st19⟩ := X11.virtualBack hx (y := (⟨"com/example/foreslot/foreslot/CountsByEnd", "add", "(JJ)V"⟩ : MethodName)) (z := (⟨"com/example/foreslot/foreslot/CountsByEnd", "add", "(JJ)V"⟩ : MethodName)) hown (mvT hZ (hw _ (List.mem_of_getElem? (i := 21) rfl))) (mvT hZ (hw _ (List.mem_of_getElem? (i := 22) rfl))) (notFace_of_selects (args := #[]) (mvT hZ (hw _ (List.mem_of_getElem? (i := 24) rfl)))) (mvT hZ (hw _ (List.mem_of_getElem? (i := 24) rfl))) (mvT hZ (hw _ (List.mem_of_getElem? (i := 23) rfl))) (by decide) (backOf (W := 0) (rm_add0 l Z a0 hw [] b9 qa q1 ea ca kE kC T11.heap n0 Zs12 A11 F0 F1 F2 V0 V1 g_b9 ge gc nae nac nec (by omega) (by omega)) hZ (hw _ (List.mem_of_getElem? (i := 25) rfl)) (hw _ (List.mem_of_getElem? (i := 2) rfl)) (by decide) (by decide)) q19a q19c (g := (mkF m 68 #[.val (.long qa), .second, .val (.long qb), .second, .val (.long qd), .second, .val (.long qs), .second, .val (.int vc), .val (.int vk), .val (.int nk), .val (.long q1), .second, .val (.long q2), .second, .val (.long q3), .second, .val (.ref b9), .val (.long (0 : Int64)), .second] [(.long q1), (.long qa), (.ref b9)])) rfl (by rw [hml]; rfl) (Steps.refl _) (argsL := [(.long qa), (.long q1)]) (rest := []) (lenOf pd_4 rfl) rfl (by show 2 * 0 + _ ≤ _; exact Nat.le_of_eq rfl) (hb hby at_68) (fun _ _ => ⟨rfl, rfl, (by decide : 3 + 0 ≤ _), (by decide : 35 + 0 ≤ _)⟩)
    dsimp only [Pt.U, Pt.locs, Pt.cells, Pt.slots] at X19 l19 y19 z19 st19 hQ19
    subst l19 y19 z19
    obtain ⟨rfl, N19q, K19, A19, Fe19, Fc19, hO19⟩ := hQ19
    have N19 := Fr.app N11 N19q
    have Zs20 : n0 ≤ T19.heap.size := Nat.le_trans Zs12 K19.1
    have pre22 : ∀ t, Steps p.tables e below (T19.setTop (mkF m 71 #[.val (.long qa), .second, .val (.long qb), .second, .val (.long qd), .second, .val (.long qs), .second, .val (.int vc), .val (.int vk), .val (.int nk), .val (.long q1), .second, .val (.long q2), .second, .val (.long q3), .second, .val (.ref b9), .val (.long (0 : Int64)), .second] [])) t → Steps p.tables e below (s₁.setTop (entryFrame m #[(.long qa), (.long qb), (.long qd), (.long qs), (.int vc), (.int vk)] maxLocals)) t := fun t kt => by
      refine pre14 _ ?_
      show Steps p.tables e below (T11.setTop (mkF m 60 #[.val (.long qa), .second, .val (.long qb), .second, .val (.long qd), .second, .val (.long qs), .second, .val (.int vc), .val (.int vk), .val (.int nk), .val (.long q1), .second, .val (.long q2), .second, .val (.long q3), .second, .val (.ref b9), .val (.long (0 : Int64)), .second] [(.int (1 : Int32)), (.int nk)])) _
      refine XS.icmpNo X11.here hx rfl (hb hby at_60) rfl (own_flt (a := nk) (b := (1 : Int32)) rfl (by decide) hc60_13).1 ?_
      show Steps p.tables e below (T11.setTop (mkF m 63 #[.val (.long qa), .second, .val (.long qb), .second, .val (.long qd), .second, .val (.long qs), .second, .val (.int vc), .val (.int vk), .val (.int nk), .val (.long q1), .second, .val (.long q2), .second, .val (.long q3), .second, .val (.ref b9), .val (.long (0 : Int64)), .second] [])) _
      refine XS.aload X11.here hx rfl (hb hby at_63) rfl rfl ?_
      show Steps p.tables e below (T11.setTop (mkF m 65 #[.val (.long qa), .second, .val (.long qb), .second, .val (.long qd), .second, .val (.long qs), .second, .val (.int vc), .val (.int vk), .val (.int nk), .val (.long q1), .second, .val (.long q2), .second, .val (.long q3), .second, .val (.ref b9), .val (.long (0 : Int64)), .second] [(.ref b9)])) _
      refine XS.lloadN X11.here hx rfl (hb hby at_65) rfl ?_
      show Steps p.tables e below (T11.setTop (mkF m 66 #[.val (.long qa), .second, .val (.long qb), .second, .val (.long qd), .second, .val (.long qs), .second, .val (.int vc), .val (.int vk), .val (.int nk), .val (.long q1), .second, .val (.long q2), .second, .val (.long q3), .second, .val (.ref b9), .val (.long (0 : Int64)), .second] [(.long qa), (.ref b9)])) _
      refine XS.lload X11.here hx rfl (hb hby at_66) rfl ?_
      show Steps p.tables e below (T11.setTop (mkF m 68 #[.val (.long qa), .second, .val (.long qb), .second, .val (.long qd), .second, .val (.long qs), .second, .val (.int vc), .val (.int vk), .val (.int nk), .val (.long q1), .second, .val (.long q2), .second, .val (.long q3), .second, .val (.ref b9), .val (.long (0 : Int64)), .second] [(.long q1), (.long qa), (.ref b9)])) _
      refine st19.trans ?_
      exact kt
    rcases hO19 with ⟨y21_0, d21_0, F2_21, V0_21, V1_21, p21_0, t_21, hs_21⟩
    have own_mark21 := True.intro
    obtain ⟨ex1, hex1, pre27⟩ : ∃ ex1 : Int64, (ex1.toInt = (0 : Int) + own_f qa.toInt qs.toInt q1.toInt ∧ 0 ≤ ex1.toInt ∧ ex1.toInt ≤ 256) ∧ ∀ t, Steps p.tables e below (T19.setTop (mkF m 85 #[.val (.long qa), .second, .val (.long qb), .second, .val (.long qd), .second, .val (.long qs), .second, .val (.int vc), .val (.int vk), .val (.int nk), .val (.long q1), .second, .val (.long q2), .second, .val (.long q3), .second, .val (.ref b9), .val (.long ex1), .second] [])) t → Steps p.tables e below (s₁.setTop (entryFrame m #[(.long qa), (.long qb), (.long qd), (.long qs), (.int vc), (.int vk)] maxLocals)) t := by
      have pre24 : ∀ t, Steps p.tables e below (T19.setTop (mkF m 75 #[.val (.long qa), .second, .val (.long qb), .second, .val (.long qd), .second, .val (.long qs), .second, .val (.int vc), .val (.int vk), .val (.int nk), .val (.long q1), .second, .val (.long q2), .second, .val (.long q3), .second, .val (.ref b9), .val (.long (0 : Int64)), .second] [(.int (lcmpW qa qs))])) t → Steps p.tables e below (s₁.setTop (entryFrame m #[(.long qa), (.long qb), (.long qd), (.long qs), (.int vc), (.int vk)] maxLocals)) t := fun t kt => by
        refine pre22 _ ?_
        show Steps p.tables e below (T19.setTop (mkF m 71 #[.val (.long qa), .second, .val (.long qb), .second, .val (.long qd), .second, .val (.long qs), .second, .val (.int vc), .val (.int vk), .val (.int nk), .val (.long q1), .second, .val (.long q2), .second, .val (.long q3), .second, .val (.ref b9), .val (.long (0 : Int64)), .second] [])) _
        refine XS.lloadN X19.here hx rfl (hb hby at_71) rfl ?_
        show Steps p.tables e below (T19.setTop (mkF m 72 #[.val (.long qa), .second, .val (.long qb), .second, .val (.long qd), .second, .val (.long qs), .second, .val (.int vc), .val (.int vk), .val (.int nk), .val (.long q1), .second, .val (.long q2), .second, .val (.long q3), .second, .val (.ref b9), .val (.long (0 : Int64)), .second] [(.long qa)])) _
        refine XS.lload X19.here hx rfl (hb hby at_72) rfl ?_
        show Steps p.tables e below (T19.setTop (mkF m 74 #[.val (.long qa), .second, .val (.long qb), .second, .val (.long qd), .second, .val (.long qs), .second, .val (.int vc), .val (.int vk), .val (.int nk), .val (.long q1), .second, .val (.long q2), .second, .val (.long q3), .second, .val (.ref b9), .val (.long (0 : Int64)), .second] [(.long qs), (.long qa)])) _
        refine XS.lcmp X19.here hx rfl (hb hby at_74) rfl ?_
        exact kt
      by_cases hc75_23 : qs.toInt < qa.toInt
      · have pre25 : ∀ t, Steps p.tables e below (T19.setTop (mkF m 85 #[.val (.long qa), .second, .val (.long qb), .second, .val (.long qd), .second, .val (.long qs), .second, .val (.int vc), .val (.int vk), .val (.int nk), .val (.long q1), .second, .val (.long q2), .second, .val (.long q3), .second, .val (.ref b9), .val (.long (0 : Int64)), .second] [])) t → Steps p.tables e below (s₁.setTop (entryFrame m #[(.long qa), (.long qb), (.long qd), (.long qs), (.int vc), (.int vk)] maxLocals)) t := fun t kt => by
          refine pre24 _ ?_
          show Steps p.tables e below (T19.setTop (mkF m 75 #[.val (.long qa), .second, .val (.long qb), .second, .val (.long qd), .second, .val (.long qs), .second, .val (.int vc), .val (.int vk), .val (.int nk), .val (.long q1), .second, .val (.long q2), .second, .val (.long q3), .second, .val (.ref b9), .val (.long (0 : Int64)), .second] [(.int (lcmpW qa qs))])) _
          refine XS.ifYes X19.here hx rfl (pc0 := 75) (pc' := 85) rfl (hb hby at_75) rfl (own_if (own_tgtL (x := qa) (y := qs) rfl rfl hc75_23).1) (by decide) (by decide) ?_
          exact kt
        exact ⟨(0 : Int64), by rw [own_fn (x := qa.toInt) (by omega)]; have iv : ((0 : Int64)).toInt = (0 : Int) := (by decide); omega, pre25⟩
      · have pre26 : ∀ t, Steps p.tables e below (T19.setTop (mkF m 85 #[.val (.long qa), .second, .val (.long qb), .second, .val (.long qd), .second, .val (.long qs), .second, .val (.int vc), .val (.int vk), .val (.int nk), .val (.long q1), .second, .val (.long q2), .second, .val (.long q3), .second, .val (.ref b9), .val (.long ((0 : Int64) + q1)), .second] [])) t → Steps p.tables e below (s₁.setTop (entryFrame m #[(.long qa), (.long qb), (.long qd), (.long qs), (.int vc), (.int vk)] maxLocals)) t := fun t kt => by
          refine pre24 _ ?_
          show Steps p.tables e below (T19.setTop (mkF m 75 #[.val (.long qa), .second, .val (.long qb), .second, .val (.long qd), .second, .val (.long qs), .second, .val (.int vc), .val (.int vk), .val (.int nk), .val (.long q1), .second, .val (.long q2), .second, .val (.long q3), .second, .val (.ref b9), .val (.long (0 : Int64)), .second] [(.int (lcmpW qa qs))])) _
          refine XS.ifNo X19.here hx rfl (hb hby at_75) rfl (own_if (own_fgtL (x := qa) (y := qs) rfl rfl hc75_23).1) ?_
          show Steps p.tables e below (T19.setTop (mkF m 78 #[.val (.long qa), .second, .val (.long qb), .second, .val (.long qd), .second, .val (.long qs), .second, .val (.int vc), .val (.int vk), .val (.int nk), .val (.long q1), .second, .val (.long q2), .second, .val (.long q3), .second, .val (.ref b9), .val (.long (0 : Int64)), .second] [])) _
          refine XS.lload X19.here hx rfl (hb hby at_78) rfl ?_
          show Steps p.tables e below (T19.setTop (mkF m 80 #[.val (.long qa), .second, .val (.long qb), .second, .val (.long qd), .second, .val (.long qs), .second, .val (.int vc), .val (.int vk), .val (.int nk), .val (.long q1), .second, .val (.long q2), .second, .val (.long q3), .second, .val (.ref b9), .val (.long (0 : Int64)), .second] [(.long (0 : Int64))])) _
          refine XS.lload X19.here hx rfl (hb hby at_80) rfl ?_
          show Steps p.tables e below (T19.setTop (mkF m 82 #[.val (.long qa), .second, .val (.long qb), .second, .val (.long qd), .second, .val (.long qs), .second, .val (.int vc), .val (.int vk), .val (.int nk), .val (.long q1), .second, .val (.long q2), .second, .val (.long q3), .second, .val (.ref b9), .val (.long (0 : Int64)), .second] [(.long q1), (.long (0 : Int64))])) _
          refine XS.ladd X19.here hx rfl (hb hby at_82) rfl ?_
          show Steps p.tables e below (T19.setTop (mkF m 83 #[.val (.long qa), .second, .val (.long qb), .second, .val (.long qd), .second, .val (.long qs), .second, .val (.int vc), .val (.int vk), .val (.int nk), .val (.long q1), .second, .val (.long q2), .second, .val (.long q3), .second, .val (.ref b9), .val (.long (0 : Int64)), .second] [(.long ((0 : Int64) + q1))])) _
          refine XS.lstore X19.here hx rfl (hb hby at_83) rfl (l' := #[.val (.long qa), .second, .val (.long qb), .second, .val (.long qd), .second, .val (.long qs), .second, .val (.int vc), .val (.int vk), .val (.int nk), .val (.long q1), .second, .val (.long q2), .second, .val (.long q3), .second, .val (.ref b9), .val (.long ((0 : Int64) + q1)), .second]) rfl ?_
          exact kt
        exact ⟨((0 : Int64) + q1), by rw [own_fp (x := qa.toInt) (by omega)]; have := rng64 q1; have : ((((0 : Int64) + q1)).toInt - ((0 : Int) + q1.toInt)) % 18446744073709551616 = 0 := c_ladd (0 : Int64) q1; have := rng64 ((0 : Int64) + q1); omega, pre26⟩
    have pre29 : ∀ t, Steps p.tables e below (T19.setTop (mkF m 88 #[.val (.long qa), .second, .val (.long qb), .second, .val (.long qd), .second, .val (.long qs), .second, .val (.int vc), .val (.int vk), .val (.int nk), .val (.long q1), .second, .val (.long q2), .second, .val (.long q3), .second, .val (.ref b9), .val (.long ex1), .second] [(.int (2 : Int32)), (.int nk)])) t → Steps p.tables e below (s₁.setTop (entryFrame m #[(.long qa), (.long qb), (.long qd), (.long qs), (.int vc), (.int vk)] maxLocals)) t := fun t kt => by
      refine pre27 _ ?_
      show Steps p.tables e below (T19.setTop (mkF m 85 #[.val (.long qa), .second, .val (.long qb), .second, .val (.long qd), .second, .val (.long qs), .second, .val (.int vc), .val (.int vk), .val (.int nk), .val (.long q1), .second, .val (.long q2), .second, .val (.long q3), .second, .val (.ref b9), .val (.long ex1), .second] [])) _
      refine XS.iload X19.here hx rfl (hb hby at_85) rfl ?_
      show Steps p.tables e below (T19.setTop (mkF m 87 #[.val (.long qa), .second, .val (.long qb), .second, .val (.long qd), .second, .val (.long qs), .second, .val (.int vc), .val (.int vk), .val (.int nk), .val (.long q1), .second, .val (.long q2), .second, .val (.long q3), .second, .val (.ref b9), .val (.long ex1), .second] [(.int nk)])) _
      refine XS.iconst X19.here hx rfl (hb hby at_87) ?_
      exact kt
    by_cases hc88_28 : nk.toInt < (2 : Int)
    · have hc116_30 : nk.toInt < (3 : Int) := by omega
      obtain ⟨cq31, kq31, q31a, q31b, q31c⟩ := isOf hZ rfl A19
      obtain ⟨_, _, ⟨T31, L31, k31, n31⟩, -, X31, ⟨Lc31, hQ31, l31, y31, z31⟩, st31⟩ := X19.virtualBack hx (y := (⟨"com/example/foreslot/foreslot/CountsByEnd", "heldUntilAtLatest", "(J)J"⟩ : MethodName)) (z := (⟨"com/example/foreslot/foreslot/CountsByEnd", "heldUntilAtLatest", "(J)J"⟩ : MethodName)) hown (mvT hZ (hw _ (List.mem_of_getElem? (i := 14) rfl))) (mvT hZ (hw _ (List.mem_of_getElem? (i := 15) rfl))) (notFace_of_selects (args := #[]) (mvT hZ (hw _ (List.mem_of_getElem? (i := 17) rfl)))) (mvT hZ (hw _ (List.mem_of_getElem? (i := 17) rfl))) (mvT hZ (hw _ (List.mem_of_getElem? (i := 16) rfl))) (by decide) (backOf (W := 0) (rm_h1 l Z a0 hw [] b9 qs ea ca kE kC y21_0 d21_0 T19.heap n0 Zs20 A19 Fe19 Fc19 F2_21 V0_21 V1_21 (by omega) (by omega)) hZ (hw _ (List.mem_of_getElem? (i := 18) rfl)) (hw _ (List.mem_of_getElem? (i := 2) rfl)) (by decide) (by decide)) q31a q31c (g := (mkF m 147 #[.val (.long qa), .second, .val (.long qb), .second, .val (.long qd), .second, .val (.long qs), .second, .val (.int vc), .val (.int vk), .val (.int nk), .val (.long q1), .second, .val (.long q2), .second, .val (.long q3), .second, .val (.ref b9), .val (.long ex1), .second] [(.long qs), (.ref b9)])) rfl (by rw [hml]; rfl) (Steps.refl _) (argsL := [(.long qs)]) (rest := []) (lenOf pd_3 rfl) rfl (by show 2 * 0 + _ ≤ _; exact Nat.le_of_eq rfl) (hb hby at_147) (fun _ _ => ⟨rfl, rfl, (by decide : 3 + 0 ≤ _), (by decide : 35 + 0 ≤ _)⟩)
      dsimp only [Pt.U, Pt.locs, Pt.cells, Pt.slots] at X31 l31 y31 z31 st31 hQ31
      subst l31 y31 z31
      obtain ⟨hd, rfl, hhd, N31q, e31⟩ := hQ31
      have N31 := Fr.app N19 N31q
      have hc153_32 : hd.toInt = ex1.toInt := by have := hs_21 qs.toInt; omega
      obtain ⟨fs, hr, hrun, hended, hW, hsame⟩ := X31.leave (v := some (.int (1 : Int32))) (fun h => by rw [Bd.returns] at h; cases h)
      refine ⟨_, _, pre29 _ ?_, hrun, hended, _, _, rfl, ?_, ⟨_, rfl⟩, hW, hsame.mono (by decide) (by decide)⟩
      · show Steps p.tables e below (T19.setTop (mkF m 88 #[.val (.long qa), .second, .val (.long qb), .second, .val (.long qd), .second, .val (.long qs), .second, .val (.int vc), .val (.int vk), .val (.int nk), .val (.long q1), .second, .val (.long q2), .second, .val (.long q3), .second, .val (.ref b9), .val (.long ex1), .second] [(.int (2 : Int32)), (.int nk)])) _
        refine XS.icmpYes X19.here hx rfl (pc0 := 88) (pc' := 113) rfl (hb hby at_88) rfl (own_tlt (a := nk) (b := (2 : Int32)) rfl (by decide) hc88_28).1 (by decide) (by decide) ?_
        show Steps p.tables e below (T19.setTop (mkF m 113 #[.val (.long qa), .second, .val (.long qb), .second, .val (.long qd), .second, .val (.long qs), .second, .val (.int vc), .val (.int vk), .val (.int nk), .val (.long q1), .second, .val (.long q2), .second, .val (.long q3), .second, .val (.ref b9), .val (.long ex1), .second] [])) _
        refine XS.iload X19.here hx rfl (hb hby at_113) rfl ?_
        show Steps p.tables e below (T19.setTop (mkF m 115 #[.val (.long qa), .second, .val (.long qb), .second, .val (.long qd), .second, .val (.long qs), .second, .val (.int vc), .val (.int vk), .val (.int nk), .val (.long q1), .second, .val (.long q2), .second, .val (.long q3), .second, .val (.ref b9), .val (.long ex1), .second] [(.int nk)])) _
        refine XS.iconst X19.here hx rfl (hb hby at_115) ?_
        show Steps p.tables e below (T19.setTop (mkF m 116 #[.val (.long qa), .second, .val (.long qb), .second, .val (.long qd), .second, .val (.long qs), .second, .val (.int vc), .val (.int vk), .val (.int nk), .val (.long q1), .second, .val (.long q2), .second, .val (.long q3), .second, .val (.ref b9), .val (.long ex1), .second] [(.int (3 : Int32)), (.int nk)])) _
        refine XS.icmpYes X19.here hx rfl (pc0 := 116) (pc' := 143) rfl (hb hby at_116) rfl (own_tlt (a := nk) (b := (3 : Int32)) rfl (by decide) hc116_30).1 (by decide) (by decide) ?_
        show Steps p.tables e below (T19.setTop (mkF m 143 #[.val (.long qa), .second, .val (.long qb), .second, .val (.long qd), .second, .val (.long qs), .second, .val (.int vc), .val (.int vk), .val (.int nk), .val (.long q1), .second, .val (.long q2), .second, .val (.long q3), .second, .val (.ref b9), .val (.long ex1), .second] [])) _
        refine XS.aload X19.here hx rfl (hb hby at_143) rfl rfl ?_
        show Steps p.tables e below (T19.setTop (mkF m 145 #[.val (.long qa), .second, .val (.long qb), .second, .val (.long qd), .second, .val (.long qs), .second, .val (.int vc), .val (.int vk), .val (.int nk), .val (.long q1), .second, .val (.long q2), .second, .val (.long q3), .second, .val (.ref b9), .val (.long ex1), .second] [(.ref b9)])) _
        refine XS.lload X19.here hx rfl (hb hby at_145) rfl ?_
        show Steps p.tables e below (T19.setTop (mkF m 147 #[.val (.long qa), .second, .val (.long qb), .second, .val (.long qd), .second, .val (.long qs), .second, .val (.int vc), .val (.int vk), .val (.int nk), .val (.long q1), .second, .val (.long q2), .second, .val (.long q3), .second, .val (.ref b9), .val (.long ex1), .second] [(.long qs), (.ref b9)])) _
        refine st31.trans ?_
        show Steps p.tables e below (T31.setTop (mkF m 150 #[.val (.long qa), .second, .val (.long qb), .second, .val (.long qd), .second, .val (.long qs), .second, .val (.int vc), .val (.int vk), .val (.int nk), .val (.long q1), .second, .val (.long q2), .second, .val (.long q3), .second, .val (.ref b9), .val (.long ex1), .second] [(.long hd)])) _
        refine XS.lload X31.here hx rfl (hb hby at_150) rfl ?_
        show Steps p.tables e below (T31.setTop (mkF m 152 #[.val (.long qa), .second, .val (.long qb), .second, .val (.long qd), .second, .val (.long qs), .second, .val (.int vc), .val (.int vk), .val (.int nk), .val (.long q1), .second, .val (.long q2), .second, .val (.long q3), .second, .val (.ref b9), .val (.long ex1), .second] [(.long ex1), (.long hd)])) _
        refine XS.lcmp X31.here hx rfl (hb hby at_152) rfl ?_
        show Steps p.tables e below (T31.setTop (mkF m 153 #[.val (.long qa), .second, .val (.long qb), .second, .val (.long qd), .second, .val (.long qs), .second, .val (.int vc), .val (.int vk), .val (.int nk), .val (.long q1), .second, .val (.long q2), .second, .val (.long q3), .second, .val (.ref b9), .val (.long ex1), .second] [(.int (lcmpW hd ex1))])) _
        refine XS.ifNo X31.here hx rfl (hb hby at_153) rfl (own_if (own_teqL (x := hd) (y := ex1) rfl rfl hc153_32).2) ?_
        show Steps p.tables e below (T31.setTop (mkF m 156 #[.val (.long qa), .second, .val (.long qb), .second, .val (.long qd), .second, .val (.long qs), .second, .val (.int vc), .val (.int vk), .val (.int nk), .val (.long q1), .second, .val (.long q2), .second, .val (.long q3), .second, .val (.ref b9), .val (.long ex1), .second] [])) _
        refine XS.iconst X31.here hx rfl (hb hby at_156) ?_
        show Steps p.tables e below (T31.setTop (mkF m 157 #[.val (.long qa), .second, .val (.long qb), .second, .val (.long qd), .second, .val (.long qs), .second, .val (.int vc), .val (.int vk), .val (.int nk), .val (.long q1), .second, .val (.long q2), .second, .val (.long q3), .second, .val (.ref b9), .val (.long ex1), .second] [(.int (1 : Int32))])) _
        refine XS.goto X31.here hx rfl (pc0 := 157) (pc' := 161) rfl (hb hby at_157) (by decide) (by decide) ?_
        show Steps p.tables e below (T31.setTop (mkF m 161 #[.val (.long qa), .second, .val (.long qb), .second, .val (.long qd), .second, .val (.long qs), .second, .val (.int vc), .val (.int vk), .val (.int nk), .val (.long q1), .second, .val (.long q2), .second, .val (.long q3), .second, .val (.ref b9), .val (.long ex1), .second] [(.int (1 : Int32))])) _
        exact retN X31 hx (t := .boolean) Bd.returns (by simp) (hb hby at_161) hr
      · show Q0 Z qa qb qd qs vc vk h0 n0 _ T31.heap _
        rw [e31]
        exact ⟨rfl, N31⟩
    · obtain ⟨cq33, kq33, q33a, q33b, q33c⟩ := isOf hZ rfl A19
      obtain ⟨_, _, ⟨T33, L33, k33, n33⟩, -, X33, ⟨Lc33, hQ33, l33, y33, z33⟩, st33⟩ := X19.virtualBack hx (y := (⟨"com/example/foreslot/foreslot/CountsByEnd", "add", "(JJ)V"⟩ : MethodName)) (z := (⟨"com/example/foreslot/foreslot/CountsByEnd", "add", "(JJ)V"⟩ : MethodName)) hown (mvT hZ (hw _ (List.mem_of_getElem? (i := 21) rfl))) (mvT hZ (hw _ (List.mem_of_getElem? (i := 22) rfl))) (notFace_of_selects (args := #[]) (mvT hZ (hw _ (List.mem_of_getElem? (i := 24) rfl)))) (mvT hZ (hw _ (List.mem_of_getElem? (i := 24) rfl))) (mvT hZ (hw _ (List.mem_of_getElem? (i := 23) rfl))) (by decide) (backOf (W := 0) (rm_add1 l Z a0 hw [] b9 qb q2 ea ca kE kC y21_0 d21_0 T19.heap n0 Zs20 A19 Fe19 Fc19 F2_21 V0_21 V1_21 g_b9 ge gc nae nac nec (by omega) (by omega) (by omega)) hZ (hw _ (List.mem_of_getElem? (i := 25) rfl)) (hw _ (List.mem_of_getElem? (i := 2) rfl)) (by decide) (by decide)) q33a q33c (g := (mkF m 96 #[.val (.long qa), .second, .val (.long qb), .second, .val (.long qd), .second, .val (.long qs), .second, .val (.int vc), .val (.int vk), .val (.int nk), .val (.long q1), .second, .val (.long q2), .second, .val (.long q3), .second, .val (.ref b9), .val (.long ex1), .second] [(.long q2), (.long qb), (.ref b9)])) rfl (by rw [hml]; rfl) (Steps.refl _) (argsL := [(.long qb), (.long q2)]) (rest := []) (lenOf pd_4 rfl) rfl (by show 2 * 0 + _ ≤ _; exact Nat.le_of_eq rfl) (hb hby at_96) (fun _ _ => ⟨rfl, rfl, (by decide : 3 + 0 ≤ _), (by decide : 35 + 0 ≤ _)⟩)
      dsimp only [Pt.U, Pt.locs, Pt.cells, Pt.slots] at X33 l33 y33 z33 st33 hQ33
      subst l33 y33 z33
      obtain ⟨rfl, N33q, K33, A33, Fe33, Fc33, hO33⟩ := hQ33
      have N33 := Fr.app N19 N33q
      have Zs34 : n0 ≤ T33.heap.size := Nat.le_trans Zs20 K33.1
      have pre37 : ∀ t, Steps p.tables e below (T33.setTop (mkF m 99 #[.val (.long qa), .second, .val (.long qb), .second, .val (.long qd), .second, .val (.long qs), .second, .val (.int vc), .val (.int vk), .val (.int nk), .val (.long q1), .second, .val (.long q2), .second, .val (.long q3), .second, .val (.ref b9), .val (.long ex1), .second] [])) t → Steps p.tables e below (s₁.setTop (entryFrame m #[(.long qa), (.long qb), (.long qd), (.long qs), (.int vc), (.int vk)] maxLocals)) t := fun t kt => by
        refine pre29 _ ?_
        show Steps p.tables e below (T19.setTop (mkF m 88 #[.val (.long qa), .second, .val (.long qb), .second, .val (.long qd), .second, .val (.long qs), .second, .val (.int vc), .val (.int vk), .val (.int nk), .val (.long q1), .second, .val (.long q2), .second, .val (.long q3), .second, .val (.ref b9), .val (.long ex1), .second] [(.int (2 : Int32)), (.int nk)])) _
        refine XS.icmpNo X19.here hx rfl (hb hby at_88) rfl (own_flt (a := nk) (b := (2 : Int32)) rfl (by decide) hc88_28).1 ?_
        show Steps p.tables e below (T19.setTop (mkF m 91 #[.val (.long qa), .second, .val (.long qb), .second, .val (.long qd), .second, .val (.long qs), .second, .val (.int vc), .val (.int vk), .val (.int nk), .val (.long q1), .second, .val (.long q2), .second, .val (.long q3), .second, .val (.ref b9), .val (.long ex1), .second] [])) _
        refine XS.aload X19.here hx rfl (hb hby at_91) rfl rfl ?_
        show Steps p.tables e below (T19.setTop (mkF m 93 #[.val (.long qa), .second, .val (.long qb), .second, .val (.long qd), .second, .val (.long qs), .second, .val (.int vc), .val (.int vk), .val (.int nk), .val (.long q1), .second, .val (.long q2), .second, .val (.long q3), .second, .val (.ref b9), .val (.long ex1), .second] [(.ref b9)])) _
        refine XS.lloadN X19.here hx rfl (hb hby at_93) rfl ?_
        show Steps p.tables e below (T19.setTop (mkF m 94 #[.val (.long qa), .second, .val (.long qb), .second, .val (.long qd), .second, .val (.long qs), .second, .val (.int vc), .val (.int vk), .val (.int nk), .val (.long q1), .second, .val (.long q2), .second, .val (.long q3), .second, .val (.ref b9), .val (.long ex1), .second] [(.long qb), (.ref b9)])) _
        refine XS.lload X19.here hx rfl (hb hby at_94) rfl ?_
        show Steps p.tables e below (T19.setTop (mkF m 96 #[.val (.long qa), .second, .val (.long qb), .second, .val (.long qd), .second, .val (.long qs), .second, .val (.int vc), .val (.int vk), .val (.int nk), .val (.long q1), .second, .val (.long q2), .second, .val (.long q3), .second, .val (.ref b9), .val (.long ex1), .second] [(.long q2), (.long qb), (.ref b9)])) _
        refine st33.trans ?_
        exact kt
      rcases hO33 with ⟨y35_0, d35_0, F2_35, V0_35, V1_35, p35_0, t_35, hs_35⟩ | ⟨y36_0, y36_1, d36_0, d36_1, F2_36, V0_36, V1_36, o36_0, p36_0, p36_1, t_36, hs_36⟩
      · have own_mark35 := True.intro
        obtain ⟨ex2, hex2, pre42⟩ : ∃ ex2 : Int64, (ex2.toInt = ex1.toInt + own_f qb.toInt qs.toInt q2.toInt ∧ 0 ≤ ex2.toInt ∧ ex2.toInt ≤ 512) ∧ ∀ t, Steps p.tables e below (T33.setTop (mkF m 113 #[.val (.long qa), .second, .val (.long qb), .second, .val (.long qd), .second, .val (.long qs), .second, .val (.int vc), .val (.int vk), .val (.int nk), .val (.long q1), .second, .val (.long q2), .second, .val (.long q3), .second, .val (.ref b9), .val (.long ex2), .second] [])) t → Steps p.tables e below (s₁.setTop (entryFrame m #[(.long qa), (.long qb), (.long qd), (.long qs), (.int vc), (.int vk)] maxLocals)) t := by
          have pre39 : ∀ t, Steps p.tables e below (T33.setTop (mkF m 103 #[.val (.long qa), .second, .val (.long qb), .second, .val (.long qd), .second, .val (.long qs), .second, .val (.int vc), .val (.int vk), .val (.int nk), .val (.long q1), .second, .val (.long q2), .second, .val (.long q3), .second, .val (.ref b9), .val (.long ex1), .second] [(.int (lcmpW qb qs))])) t → Steps p.tables e below (s₁.setTop (entryFrame m #[(.long qa), (.long qb), (.long qd), (.long qs), (.int vc), (.int vk)] maxLocals)) t := fun t kt => by
            refine pre37 _ ?_
            show Steps p.tables e below (T33.setTop (mkF m 99 #[.val (.long qa), .second, .val (.long qb), .second, .val (.long qd), .second, .val (.long qs), .second, .val (.int vc), .val (.int vk), .val (.int nk), .val (.long q1), .second, .val (.long q2), .second, .val (.long q3), .second, .val (.ref b9), .val (.long ex1), .second] [])) _
            refine XS.lloadN X33.here hx rfl (hb hby at_99) rfl ?_
            show Steps p.tables e below (T33.setTop (mkF m 100 #[.val (.long qa), .second, .val (.long qb), .second, .val (.long qd), .second, .val (.long qs), .second, .val (.int vc), .val (.int vk), .val (.int nk), .val (.long q1), .second, .val (.long q2), .second, .val (.long q3), .second, .val (.ref b9), .val (.long ex1), .second] [(.long qb)])) _
            refine XS.lload X33.here hx rfl (hb hby at_100) rfl ?_
            show Steps p.tables e below (T33.setTop (mkF m 102 #[.val (.long qa), .second, .val (.long qb), .second, .val (.long qd), .second, .val (.long qs), .second, .val (.int vc), .val (.int vk), .val (.int nk), .val (.long q1), .second, .val (.long q2), .second, .val (.long q3), .second, .val (.ref b9), .val (.long ex1), .second] [(.long qs), (.long qb)])) _
            refine XS.lcmp X33.here hx rfl (hb hby at_102) rfl ?_
            exact kt
          by_cases hc103_38 : qs.toInt < qb.toInt
          · have pre40 : ∀ t, Steps p.tables e below (T33.setTop (mkF m 113 #[.val (.long qa), .second, .val (.long qb), .second, .val (.long qd), .second, .val (.long qs), .second, .val (.int vc), .val (.int vk), .val (.int nk), .val (.long q1), .second, .val (.long q2), .second, .val (.long q3), .second, .val (.ref b9), .val (.long ex1), .second] [])) t → Steps p.tables e below (s₁.setTop (entryFrame m #[(.long qa), (.long qb), (.long qd), (.long qs), (.int vc), (.int vk)] maxLocals)) t := fun t kt => by
              refine pre39 _ ?_
              show Steps p.tables e below (T33.setTop (mkF m 103 #[.val (.long qa), .second, .val (.long qb), .second, .val (.long qd), .second, .val (.long qs), .second, .val (.int vc), .val (.int vk), .val (.int nk), .val (.long q1), .second, .val (.long q2), .second, .val (.long q3), .second, .val (.ref b9), .val (.long ex1), .second] [(.int (lcmpW qb qs))])) _
              refine XS.ifYes X33.here hx rfl (pc0 := 103) (pc' := 113) rfl (hb hby at_103) rfl (own_if (own_tgtL (x := qb) (y := qs) rfl rfl hc103_38).1) (by decide) (by decide) ?_
              exact kt
            exact ⟨ex1, by rw [own_fn (x := qb.toInt) (by omega)]; have := rng64 ex1; omega, pre40⟩
          · have pre41 : ∀ t, Steps p.tables e below (T33.setTop (mkF m 113 #[.val (.long qa), .second, .val (.long qb), .second, .val (.long qd), .second, .val (.long qs), .second, .val (.int vc), .val (.int vk), .val (.int nk), .val (.long q1), .second, .val (.long q2), .second, .val (.long q3), .second, .val (.ref b9), .val (.long (ex1 + q2)), .second] [])) t → Steps p.tables e below (s₁.setTop (entryFrame m #[(.long qa), (.long qb), (.long qd), (.long qs), (.int vc), (.int vk)] maxLocals)) t := fun t kt => by
              refine pre39 _ ?_
              show Steps p.tables e below (T33.setTop (mkF m 103 #[.val (.long qa), .second, .val (.long qb), .second, .val (.long qd), .second, .val (.long qs), .second, .val (.int vc), .val (.int vk), .val (.int nk), .val (.long q1), .second, .val (.long q2), .second, .val (.long q3), .second, .val (.ref b9), .val (.long ex1), .second] [(.int (lcmpW qb qs))])) _
              refine XS.ifNo X33.here hx rfl (hb hby at_103) rfl (own_if (own_fgtL (x := qb) (y := qs) rfl rfl hc103_38).1) ?_
              show Steps p.tables e below (T33.setTop (mkF m 106 #[.val (.long qa), .second, .val (.long qb), .second, .val (.long qd), .second, .val (.long qs), .second, .val (.int vc), .val (.int vk), .val (.int nk), .val (.long q1), .second, .val (.long q2), .second, .val (.long q3), .second, .val (.ref b9), .val (.long ex1), .second] [])) _
              refine XS.lload X33.here hx rfl (hb hby at_106) rfl ?_
              show Steps p.tables e below (T33.setTop (mkF m 108 #[.val (.long qa), .second, .val (.long qb), .second, .val (.long qd), .second, .val (.long qs), .second, .val (.int vc), .val (.int vk), .val (.int nk), .val (.long q1), .second, .val (.long q2), .second, .val (.long q3), .second, .val (.ref b9), .val (.long ex1), .second] [(.long ex1)])) _
              refine XS.lload X33.here hx rfl (hb hby at_108) rfl ?_
              show Steps p.tables e below (T33.setTop (mkF m 110 #[.val (.long qa), .second, .val (.long qb), .second, .val (.long qd), .second, .val (.long qs), .second, .val (.int vc), .val (.int vk), .val (.int nk), .val (.long q1), .second, .val (.long q2), .second, .val (.long q3), .second, .val (.ref b9), .val (.long ex1), .second] [(.long q2), (.long ex1)])) _
              refine XS.ladd X33.here hx rfl (hb hby at_110) rfl ?_
              show Steps p.tables e below (T33.setTop (mkF m 111 #[.val (.long qa), .second, .val (.long qb), .second, .val (.long qd), .second, .val (.long qs), .second, .val (.int vc), .val (.int vk), .val (.int nk), .val (.long q1), .second, .val (.long q2), .second, .val (.long q3), .second, .val (.ref b9), .val (.long ex1), .second] [(.long (ex1 + q2))])) _
              refine XS.lstore X33.here hx rfl (hb hby at_111) rfl (l' := #[.val (.long qa), .second, .val (.long qb), .second, .val (.long qd), .second, .val (.long qs), .second, .val (.int vc), .val (.int vk), .val (.int nk), .val (.long q1), .second, .val (.long q2), .second, .val (.long q3), .second, .val (.ref b9), .val (.long (ex1 + q2)), .second]) rfl ?_
              exact kt
            exact ⟨(ex1 + q2), by rw [own_fp (x := qb.toInt) (by omega)]; have := rng64 ex1; have := rng64 q2; have : (((ex1 + q2)).toInt - (ex1.toInt + q2.toInt)) % 18446744073709551616 = 0 := c_ladd ex1 q2; have := rng64 (ex1 + q2); omega, pre41⟩
        have pre44 : ∀ t, Steps p.tables e below (T33.setTop (mkF m 116 #[.val (.long qa), .second, .val (.long qb), .second, .val (.long qd), .second, .val (.long qs), .second, .val (.int vc), .val (.int vk), .val (.int nk), .val (.long q1), .second, .val (.long q2), .second, .val (.long q3), .second, .val (.ref b9), .val (.long ex2), .second] [(.int (3 : Int32)), (.int nk)])) t → Steps p.tables e below (s₁.setTop (entryFrame m #[(.long qa), (.long qb), (.long qd), (.long qs), (.int vc), (.int vk)] maxLocals)) t := fun t kt => by
          refine pre42 _ ?_
          show Steps p.tables e below (T33.setTop (mkF m 113 #[.val (.long qa), .second, .val (.long qb), .second, .val (.long qd), .second, .val (.long qs), .second, .val (.int vc), .val (.int vk), .val (.int nk), .val (.long q1), .second, .val (.long q2), .second, .val (.long q3), .second, .val (.ref b9), .val (.long ex2), .second] [])) _
          refine XS.iload X33.here hx rfl (hb hby at_113) rfl ?_
          show Steps p.tables e below (T33.setTop (mkF m 115 #[.val (.long qa), .second, .val (.long qb), .second, .val (.long qd), .second, .val (.long qs), .second, .val (.int vc), .val (.int vk), .val (.int nk), .val (.long q1), .second, .val (.long q2), .second, .val (.long q3), .second, .val (.ref b9), .val (.long ex2), .second] [(.int nk)])) _
          refine XS.iconst X33.here hx rfl (hb hby at_115) ?_
          exact kt
        by_cases hc116_43 : nk.toInt < (3 : Int)
        · obtain ⟨cq45, kq45, q45a, q45b, q45c⟩ := isOf hZ rfl A33
          obtain ⟨_, _, ⟨T45, L45, k45, n45⟩, -, X45, ⟨Lc45, hQ45, l45, y45, z45⟩, st45⟩ := X33.virtualBack hx (y := (⟨"com/example/foreslot/foreslot/CountsByEnd", "heldUntilAtLatest", "(J)J"⟩ : MethodName)) (z := (⟨"com/example/foreslot/foreslot/CountsByEnd", "heldUntilAtLatest", "(J)J"⟩ : MethodName)) hown (mvT hZ (hw _ (List.mem_of_getElem? (i := 14) rfl))) (mvT hZ (hw _ (List.mem_of_getElem? (i := 15) rfl))) (notFace_of_selects (args := #[]) (mvT hZ (hw _ (List.mem_of_getElem? (i := 17) rfl)))) (mvT hZ (hw _ (List.mem_of_getElem? (i := 17) rfl))) (mvT hZ (hw _ (List.mem_of_getElem? (i := 16) rfl))) (by decide) (backOf (W := 0) (rm_h1 l Z a0 hw [] b9 qs ea ca kE kC y35_0 d35_0 T33.heap n0 Zs34 A33 Fe33 Fc33 F2_35 V0_35 V1_35 (by omega) (by omega)) hZ (hw _ (List.mem_of_getElem? (i := 18) rfl)) (hw _ (List.mem_of_getElem? (i := 2) rfl)) (by decide) (by decide)) q45a q45c (g := (mkF m 147 #[.val (.long qa), .second, .val (.long qb), .second, .val (.long qd), .second, .val (.long qs), .second, .val (.int vc), .val (.int vk), .val (.int nk), .val (.long q1), .second, .val (.long q2), .second, .val (.long q3), .second, .val (.ref b9), .val (.long ex2), .second] [(.long qs), (.ref b9)])) rfl (by rw [hml]; rfl) (Steps.refl _) (argsL := [(.long qs)]) (rest := []) (lenOf pd_3 rfl) rfl (by show 2 * 0 + _ ≤ _; exact Nat.le_of_eq rfl) (hb hby at_147) (fun _ _ => ⟨rfl, rfl, (by decide : 3 + 0 ≤ _), (by decide : 35 + 0 ≤ _)⟩)
          dsimp only [Pt.U, Pt.locs, Pt.cells, Pt.slots] at X45 l45 y45 z45 st45 hQ45
          subst l45 y45 z45
          obtain ⟨hd, rfl, hhd, N45q, e45⟩ := hQ45
          have N45 := Fr.app N33 N45q
          have hc153_46 : hd.toInt = ex2.toInt := by have := hs_21 qs.toInt; have := hs_35 qs.toInt; omega
          obtain ⟨fs, hr, hrun, hended, hW, hsame⟩ := X45.leave (v := some (.int (1 : Int32))) (fun h => by rw [Bd.returns] at h; cases h)
          refine ⟨_, _, pre44 _ ?_, hrun, hended, _, _, rfl, ?_, ⟨_, rfl⟩, hW, hsame.mono (by decide) (by decide)⟩
          · show Steps p.tables e below (T33.setTop (mkF m 116 #[.val (.long qa), .second, .val (.long qb), .second, .val (.long qd), .second, .val (.long qs), .second, .val (.int vc), .val (.int vk), .val (.int nk), .val (.long q1), .second, .val (.long q2), .second, .val (.long q3), .second, .val (.ref b9), .val (.long ex2), .second] [(.int (3 : Int32)), (.int nk)])) _
            refine XS.icmpYes X33.here hx rfl (pc0 := 116) (pc' := 143) rfl (hb hby at_116) rfl (own_tlt (a := nk) (b := (3 : Int32)) rfl (by decide) hc116_43).1 (by decide) (by decide) ?_
            show Steps p.tables e below (T33.setTop (mkF m 143 #[.val (.long qa), .second, .val (.long qb), .second, .val (.long qd), .second, .val (.long qs), .second, .val (.int vc), .val (.int vk), .val (.int nk), .val (.long q1), .second, .val (.long q2), .second, .val (.long q3), .second, .val (.ref b9), .val (.long ex2), .second] [])) _
            refine XS.aload X33.here hx rfl (hb hby at_143) rfl rfl ?_
            show Steps p.tables e below (T33.setTop (mkF m 145 #[.val (.long qa), .second, .val (.long qb), .second, .val (.long qd), .second, .val (.long qs), .second, .val (.int vc), .val (.int vk), .val (.int nk), .val (.long q1), .second, .val (.long q2), .second, .val (.long q3), .second, .val (.ref b9), .val (.long ex2), .second] [(.ref b9)])) _
            refine XS.lload X33.here hx rfl (hb hby at_145) rfl ?_
            show Steps p.tables e below (T33.setTop (mkF m 147 #[.val (.long qa), .second, .val (.long qb), .second, .val (.long qd), .second, .val (.long qs), .second, .val (.int vc), .val (.int vk), .val (.int nk), .val (.long q1), .second, .val (.long q2), .second, .val (.long q3), .second, .val (.ref b9), .val (.long ex2), .second] [(.long qs), (.ref b9)])) _
            refine st45.trans ?_
            show Steps p.tables e below (T45.setTop (mkF m 150 #[.val (.long qa), .second, .val (.long qb), .second, .val (.long qd), .second, .val (.long qs), .second, .val (.int vc), .val (.int vk), .val (.int nk), .val (.long q1), .second, .val (.long q2), .second, .val (.long q3), .second, .val (.ref b9), .val (.long ex2), .second] [(.long hd)])) _
            refine XS.lload X45.here hx rfl (hb hby at_150) rfl ?_
            show Steps p.tables e below (T45.setTop (mkF m 152 #[.val (.long qa), .second, .val (.long qb), .second, .val (.long qd), .second, .val (.long qs), .second, .val (.int vc), .val (.int vk), .val (.int nk), .val (.long q1), .second, .val (.long q2), .second, .val (.long q3), .second, .val (.ref b9), .val (.long ex2), .second] [(.long ex2), (.long hd)])) _
            refine XS.lcmp X45.here hx rfl (hb hby at_152) rfl ?_
            show Steps p.tables e below (T45.setTop (mkF m 153 #[.val (.long qa), .second, .val (.long qb), .second, .val (.long qd), .second, .val (.long qs), .second, .val (.int vc), .val (.int vk), .val (.int nk), .val (.long q1), .second, .val (.long q2), .second, .val (.long q3), .second, .val (.ref b9), .val (.long ex2), .second] [(.int (lcmpW hd ex2))])) _
            refine XS.ifNo X45.here hx rfl (hb hby at_153) rfl (own_if (own_teqL (x := hd) (y := ex2) rfl rfl hc153_46).2) ?_
            show Steps p.tables e below (T45.setTop (mkF m 156 #[.val (.long qa), .second, .val (.long qb), .second, .val (.long qd), .second, .val (.long qs), .second, .val (.int vc), .val (.int vk), .val (.int nk), .val (.long q1), .second, .val (.long q2), .second, .val (.long q3), .second, .val (.ref b9), .val (.long ex2), .second] [])) _
            refine XS.iconst X45.here hx rfl (hb hby at_156) ?_
            show Steps p.tables e below (T45.setTop (mkF m 157 #[.val (.long qa), .second, .val (.long qb), .second, .val (.long qd), .second, .val (.long qs), .second, .val (.int vc), .val (.int vk), .val (.int nk), .val (.long q1), .second, .val (.long q2), .second, .val (.long q3), .second, .val (.ref b9), .val (.long ex2), .second] [(.int (1 : Int32))])) _
            refine XS.goto X45.here hx rfl (pc0 := 157) (pc' := 161) rfl (hb hby at_157) (by decide) (by decide) ?_
            show Steps p.tables e below (T45.setTop (mkF m 161 #[.val (.long qa), .second, .val (.long qb), .second, .val (.long qd), .second, .val (.long qs), .second, .val (.int vc), .val (.int vk), .val (.int nk), .val (.long q1), .second, .val (.long q2), .second, .val (.long q3), .second, .val (.ref b9), .val (.long ex2), .second] [(.int (1 : Int32))])) _
            exact retN X45 hx (t := .boolean) Bd.returns (by simp) (hb hby at_161) hr
          · show Q0 Z qa qb qd qs vc vk h0 n0 _ T45.heap _
            rw [e45]
            exact ⟨rfl, N45⟩
        · obtain ⟨cq47, kq47, q47a, q47b, q47c⟩ := isOf hZ rfl A33
          obtain ⟨_, _, ⟨T47, L47, k47, n47⟩, -, X47, ⟨Lc47, hQ47, l47, y47, z47⟩, st47⟩ := X33.virtualBack hx (y := (⟨"com/example/foreslot/foreslot/CountsByEnd", "add", "(JJ)V"⟩ : MethodName)) (z := (⟨"com/example/foreslot/foreslot/CountsByEnd", "add", "(JJ)V"⟩ : MethodName)) hown (mvT hZ (hw _ (List.mem_of_getElem? (i := 21) rfl))) (mvT hZ (hw _ (List.mem_of_getElem? (i := 22) rfl))) (notFace_of_selects (args := #[]) (mvT hZ (hw _ (List.mem_of_getElem? (i := 24) rfl)))) (mvT hZ (hw _ (List.mem_of_getElem? (i := 24) rfl))) (mvT hZ (hw _ (List.mem_of_getElem? (i := 23) rfl))) (by decide) (backOf (W := 0) (rm_add1 l Z a0 hw [] b9 qd q3 ea ca kE kC y35_0 d35_0 T33.heap n0 Zs34 A33 Fe33 Fc33 F2_35 V0_35 V1_35 g_b9 ge gc nae nac nec (by omega) (by omega) (by omega)) hZ (hw _ (List.mem_of_getElem? (i := 25) rfl)) (hw _ (List.mem_of_getElem? (i := 2) rfl)) (by decide) (by decide)) q47a q47c (g := (mkF m 125 #[.val (.long qa), .second, .val (.long qb), .second, .val (.long qd), .second, .val (.long qs), .second, .val (.int vc), .val (.int vk), .val (.int nk), .val (.long q1), .second, .val (.long q2), .second, .val (.long q3), .second, .val (.ref b9), .val (.long ex2), .second] [(.long q3), (.long qd), (.ref b9)])) rfl (by rw [hml]; rfl) (Steps.refl _) (argsL := [(.long qd), (.long q3)]) (rest := []) (lenOf pd_4 rfl) rfl (by show 2 * 0 + _ ≤ _; exact Nat.le_of_eq rfl) (hb hby at_125) (fun _ _ => ⟨rfl, rfl, (by decide : 3 + 0 ≤ _), (by decide : 35 + 0 ≤ _)⟩)
          dsimp only [Pt.U, Pt.locs, Pt.cells, Pt.slots] at X47 l47 y47 z47 st47 hQ47
          subst l47 y47 z47
          obtain ⟨rfl, N47q, K47, A47, Fe47, Fc47, hO47⟩ := hQ47
          have N47 := Fr.app N33 N47q
          have Zs48 : n0 ≤ T47.heap.size := Nat.le_trans Zs34 K47.1
          have pre51 : ∀ t, Steps p.tables e below (T47.setTop (mkF m 128 #[.val (.long qa), .second, .val (.long qb), .second, .val (.long qd), .second, .val (.long qs), .second, .val (.int vc), .val (.int vk), .val (.int nk), .val (.long q1), .second, .val (.long q2), .second, .val (.long q3), .second, .val (.ref b9), .val (.long ex2), .second] [])) t → Steps p.tables e below (s₁.setTop (entryFrame m #[(.long qa), (.long qb), (.long qd), (.long qs), (.int vc), (.int vk)] maxLocals)) t := fun t kt => by
            refine pre44 _ ?_
            show Steps p.tables e below (T33.setTop (mkF m 116 #[.val (.long qa), .second, .val (.long qb), .second, .val (.long qd), .second, .val (.long qs), .second, .val (.int vc), .val (.int vk), .val (.int nk), .val (.long q1), .second, .val (.long q2), .second, .val (.long q3), .second, .val (.ref b9), .val (.long ex2), .second] [(.int (3 : Int32)), (.int nk)])) _
            refine XS.icmpNo X33.here hx rfl (hb hby at_116) rfl (own_flt (a := nk) (b := (3 : Int32)) rfl (by decide) hc116_43).1 ?_
            show Steps p.tables e below (T33.setTop (mkF m 119 #[.val (.long qa), .second, .val (.long qb), .second, .val (.long qd), .second, .val (.long qs), .second, .val (.int vc), .val (.int vk), .val (.int nk), .val (.long q1), .second, .val (.long q2), .second, .val (.long q3), .second, .val (.ref b9), .val (.long ex2), .second] [])) _
            refine XS.aload X33.here hx rfl (hb hby at_119) rfl rfl ?_
            show Steps p.tables e below (T33.setTop (mkF m 121 #[.val (.long qa), .second, .val (.long qb), .second, .val (.long qd), .second, .val (.long qs), .second, .val (.int vc), .val (.int vk), .val (.int nk), .val (.long q1), .second, .val (.long q2), .second, .val (.long q3), .second, .val (.ref b9), .val (.long ex2), .second] [(.ref b9)])) _
            refine XS.lload X33.here hx rfl (hb hby at_121) rfl ?_
            show Steps p.tables e below (T33.setTop (mkF m 123 #[.val (.long qa), .second, .val (.long qb), .second, .val (.long qd), .second, .val (.long qs), .second, .val (.int vc), .val (.int vk), .val (.int nk), .val (.long q1), .second, .val (.long q2), .second, .val (.long q3), .second, .val (.ref b9), .val (.long ex2), .second] [(.long qd), (.ref b9)])) _
            refine XS.lload X33.here hx rfl (hb hby at_123) rfl ?_
            show Steps p.tables e below (T33.setTop (mkF m 125 #[.val (.long qa), .second, .val (.long qb), .second, .val (.long qd), .second, .val (.long qs), .second, .val (.int vc), .val (.int vk), .val (.int nk), .val (.long q1), .second, .val (.long q2), .second, .val (.long q3), .second, .val (.ref b9), .val (.long ex2), .second] [(.long q3), (.long qd), (.ref b9)])) _
            refine st47.trans ?_
            exact kt
          rcases hO47 with ⟨y49_0, d49_0, F2_49, V0_49, V1_49, p49_0, t_49, hs_49⟩ | ⟨y50_0, y50_1, d50_0, d50_1, F2_50, V0_50, V1_50, o50_0, p50_0, p50_1, t_50, hs_50⟩
          · have own_mark49 := True.intro
            obtain ⟨ex3, hex3, pre56⟩ : ∃ ex3 : Int64, (ex3.toInt = ex2.toInt + own_f qd.toInt qs.toInt q3.toInt ∧ 0 ≤ ex3.toInt ∧ ex3.toInt ≤ 768) ∧ ∀ t, Steps p.tables e below (T47.setTop (mkF m 143 #[.val (.long qa), .second, .val (.long qb), .second, .val (.long qd), .second, .val (.long qs), .second, .val (.int vc), .val (.int vk), .val (.int nk), .val (.long q1), .second, .val (.long q2), .second, .val (.long q3), .second, .val (.ref b9), .val (.long ex3), .second] [])) t → Steps p.tables e below (s₁.setTop (entryFrame m #[(.long qa), (.long qb), (.long qd), (.long qs), (.int vc), (.int vk)] maxLocals)) t := by
              have pre53 : ∀ t, Steps p.tables e below (T47.setTop (mkF m 133 #[.val (.long qa), .second, .val (.long qb), .second, .val (.long qd), .second, .val (.long qs), .second, .val (.int vc), .val (.int vk), .val (.int nk), .val (.long q1), .second, .val (.long q2), .second, .val (.long q3), .second, .val (.ref b9), .val (.long ex2), .second] [(.int (lcmpW qd qs))])) t → Steps p.tables e below (s₁.setTop (entryFrame m #[(.long qa), (.long qb), (.long qd), (.long qs), (.int vc), (.int vk)] maxLocals)) t := fun t kt => by
                refine pre51 _ ?_
                show Steps p.tables e below (T47.setTop (mkF m 128 #[.val (.long qa), .second, .val (.long qb), .second, .val (.long qd), .second, .val (.long qs), .second, .val (.int vc), .val (.int vk), .val (.int nk), .val (.long q1), .second, .val (.long q2), .second, .val (.long q3), .second, .val (.ref b9), .val (.long ex2), .second] [])) _
                refine XS.lload X47.here hx rfl (hb hby at_128) rfl ?_
                show Steps p.tables e below (T47.setTop (mkF m 130 #[.val (.long qa), .second, .val (.long qb), .second, .val (.long qd), .second, .val (.long qs), .second, .val (.int vc), .val (.int vk), .val (.int nk), .val (.long q1), .second, .val (.long q2), .second, .val (.long q3), .second, .val (.ref b9), .val (.long ex2), .second] [(.long qd)])) _
                refine XS.lload X47.here hx rfl (hb hby at_130) rfl ?_
                show Steps p.tables e below (T47.setTop (mkF m 132 #[.val (.long qa), .second, .val (.long qb), .second, .val (.long qd), .second, .val (.long qs), .second, .val (.int vc), .val (.int vk), .val (.int nk), .val (.long q1), .second, .val (.long q2), .second, .val (.long q3), .second, .val (.ref b9), .val (.long ex2), .second] [(.long qs), (.long qd)])) _
                refine XS.lcmp X47.here hx rfl (hb hby at_132) rfl ?_
                exact kt
              by_cases hc133_52 : qs.toInt < qd.toInt
              · have pre54 : ∀ t, Steps p.tables e below (T47.setTop (mkF m 143 #[.val (.long qa), .second, .val (.long qb), .second, .val (.long qd), .second, .val (.long qs), .second, .val (.int vc), .val (.int vk), .val (.int nk), .val (.long q1), .second, .val (.long q2), .second, .val (.long q3), .second, .val (.ref b9), .val (.long ex2), .second] [])) t → Steps p.tables e below (s₁.setTop (entryFrame m #[(.long qa), (.long qb), (.long qd), (.long qs), (.int vc), (.int vk)] maxLocals)) t := fun t kt => by
                  refine pre53 _ ?_
                  show Steps p.tables e below (T47.setTop (mkF m 133 #[.val (.long qa), .second, .val (.long qb), .second, .val (.long qd), .second, .val (.long qs), .second, .val (.int vc), .val (.int vk), .val (.int nk), .val (.long q1), .second, .val (.long q2), .second, .val (.long q3), .second, .val (.ref b9), .val (.long ex2), .second] [(.int (lcmpW qd qs))])) _
                  refine XS.ifYes X47.here hx rfl (pc0 := 133) (pc' := 143) rfl (hb hby at_133) rfl (own_if (own_tgtL (x := qd) (y := qs) rfl rfl hc133_52).1) (by decide) (by decide) ?_
                  exact kt
                exact ⟨ex2, by rw [own_fn (x := qd.toInt) (by omega)]; have := rng64 ex2; omega, pre54⟩
              · have pre55 : ∀ t, Steps p.tables e below (T47.setTop (mkF m 143 #[.val (.long qa), .second, .val (.long qb), .second, .val (.long qd), .second, .val (.long qs), .second, .val (.int vc), .val (.int vk), .val (.int nk), .val (.long q1), .second, .val (.long q2), .second, .val (.long q3), .second, .val (.ref b9), .val (.long (ex2 + q3)), .second] [])) t → Steps p.tables e below (s₁.setTop (entryFrame m #[(.long qa), (.long qb), (.long qd), (.long qs), (.int vc), (.int vk)] maxLocals)) t := fun t kt => by
                  refine pre53 _ ?_
                  show Steps p.tables e below (T47.setTop (mkF m 133 #[.val (.long qa), .second, .val (.long qb), .second, .val (.long qd), .second, .val (.long qs), .second, .val (.int vc), .val (.int vk), .val (.int nk), .val (.long q1), .second, .val (.long q2), .second, .val (.long q3), .second, .val (.ref b9), .val (.long ex2), .second] [(.int (lcmpW qd qs))])) _
                  refine XS.ifNo X47.here hx rfl (hb hby at_133) rfl (own_if (own_fgtL (x := qd) (y := qs) rfl rfl hc133_52).1) ?_
                  show Steps p.tables e below (T47.setTop (mkF m 136 #[.val (.long qa), .second, .val (.long qb), .second, .val (.long qd), .second, .val (.long qs), .second, .val (.int vc), .val (.int vk), .val (.int nk), .val (.long q1), .second, .val (.long q2), .second, .val (.long q3), .second, .val (.ref b9), .val (.long ex2), .second] [])) _
                  refine XS.lload X47.here hx rfl (hb hby at_136) rfl ?_
                  show Steps p.tables e below (T47.setTop (mkF m 138 #[.val (.long qa), .second, .val (.long qb), .second, .val (.long qd), .second, .val (.long qs), .second, .val (.int vc), .val (.int vk), .val (.int nk), .val (.long q1), .second, .val (.long q2), .second, .val (.long q3), .second, .val (.ref b9), .val (.long ex2), .second] [(.long ex2)])) _
                  refine XS.lload X47.here hx rfl (hb hby at_138) rfl ?_
                  show Steps p.tables e below (T47.setTop (mkF m 140 #[.val (.long qa), .second, .val (.long qb), .second, .val (.long qd), .second, .val (.long qs), .second, .val (.int vc), .val (.int vk), .val (.int nk), .val (.long q1), .second, .val (.long q2), .second, .val (.long q3), .second, .val (.ref b9), .val (.long ex2), .second] [(.long q3), (.long ex2)])) _
                  refine XS.ladd X47.here hx rfl (hb hby at_140) rfl ?_
                  show Steps p.tables e below (T47.setTop (mkF m 141 #[.val (.long qa), .second, .val (.long qb), .second, .val (.long qd), .second, .val (.long qs), .second, .val (.int vc), .val (.int vk), .val (.int nk), .val (.long q1), .second, .val (.long q2), .second, .val (.long q3), .second, .val (.ref b9), .val (.long ex2), .second] [(.long (ex2 + q3))])) _
                  refine XS.lstore X47.here hx rfl (hb hby at_141) rfl (l' := #[.val (.long qa), .second, .val (.long qb), .second, .val (.long qd), .second, .val (.long qs), .second, .val (.int vc), .val (.int vk), .val (.int nk), .val (.long q1), .second, .val (.long q2), .second, .val (.long q3), .second, .val (.ref b9), .val (.long (ex2 + q3)), .second]) rfl ?_
                  exact kt
                exact ⟨(ex2 + q3), by rw [own_fp (x := qd.toInt) (by omega)]; have := rng64 ex2; have := rng64 q3; have : (((ex2 + q3)).toInt - (ex2.toInt + q3.toInt)) % 18446744073709551616 = 0 := c_ladd ex2 q3; have := rng64 (ex2 + q3); omega, pre55⟩
            obtain ⟨cq57, kq57, q57a, q57b, q57c⟩ := isOf hZ rfl A47
            obtain ⟨_, _, ⟨T57, L57, k57, n57⟩, -, X57, ⟨Lc57, hQ57, l57, y57, z57⟩, st57⟩ := X47.virtualBack hx (y := (⟨"com/example/foreslot/foreslot/CountsByEnd", "heldUntilAtLatest", "(J)J"⟩ : MethodName)) (z := (⟨"com/example/foreslot/foreslot/CountsByEnd", "heldUntilAtLatest", "(J)J"⟩ : MethodName)) hown (mvT hZ (hw _ (List.mem_of_getElem? (i := 14) rfl))) (mvT hZ (hw _ (List.mem_of_getElem? (i := 15) rfl))) (notFace_of_selects (args := #[]) (mvT hZ (hw _ (List.mem_of_getElem? (i := 17) rfl)))) (mvT hZ (hw _ (List.mem_of_getElem? (i := 17) rfl))) (mvT hZ (hw _ (List.mem_of_getElem? (i := 16) rfl))) (by decide) (backOf (W := 0) (rm_h1 l Z a0 hw [] b9 qs ea ca kE kC y49_0 d49_0 T47.heap n0 Zs48 A47 Fe47 Fc47 F2_49 V0_49 V1_49 (by omega) (by omega)) hZ (hw _ (List.mem_of_getElem? (i := 18) rfl)) (hw _ (List.mem_of_getElem? (i := 2) rfl)) (by decide) (by decide)) q57a q57c (g := (mkF m 147 #[.val (.long qa), .second, .val (.long qb), .second, .val (.long qd), .second, .val (.long qs), .second, .val (.int vc), .val (.int vk), .val (.int nk), .val (.long q1), .second, .val (.long q2), .second, .val (.long q3), .second, .val (.ref b9), .val (.long ex3), .second] [(.long qs), (.ref b9)])) rfl (by rw [hml]; rfl) (Steps.refl _) (argsL := [(.long qs)]) (rest := []) (lenOf pd_3 rfl) rfl (by show 2 * 0 + _ ≤ _; exact Nat.le_of_eq rfl) (hb hby at_147) (fun _ _ => ⟨rfl, rfl, (by decide : 3 + 0 ≤ _), (by decide : 35 + 0 ≤ _)⟩)
            dsimp only [Pt.U, Pt.locs, Pt.cells, Pt.slots] at X57 l57 y57 z57 st57 hQ57
            subst l57 y57 z57
            obtain ⟨hd, rfl, hhd, N57q, e57⟩ := hQ57
            have N57 := Fr.app N47 N57q
            have hc153_58 : hd.toInt = ex3.toInt := by have := hs_21 qs.toInt; have := hs_35 qs.toInt; have := hs_49 qs.toInt; omega
            obtain ⟨fs, hr, hrun, hended, hW, hsame⟩ := X57.leave (v := some (.int (1 : Int32))) (fun h => by rw [Bd.returns] at h; cases h)
            refine ⟨_, _, pre56 _ ?_, hrun, hended, _, _, rfl, ?_, ⟨_, rfl⟩, hW, hsame.mono (by decide) (by decide)⟩
            · show Steps p.tables e below (T47.setTop (mkF m 143 #[.val (.long qa), .second, .val (.long qb), .second, .val (.long qd), .second, .val (.long qs), .second, .val (.int vc), .val (.int vk), .val (.int nk), .val (.long q1), .second, .val (.long q2), .second, .val (.long q3), .second, .val (.ref b9), .val (.long ex3), .second] [])) _
              refine XS.aload X47.here hx rfl (hb hby at_143) rfl rfl ?_
              show Steps p.tables e below (T47.setTop (mkF m 145 #[.val (.long qa), .second, .val (.long qb), .second, .val (.long qd), .second, .val (.long qs), .second, .val (.int vc), .val (.int vk), .val (.int nk), .val (.long q1), .second, .val (.long q2), .second, .val (.long q3), .second, .val (.ref b9), .val (.long ex3), .second] [(.ref b9)])) _
              refine XS.lload X47.here hx rfl (hb hby at_145) rfl ?_
              show Steps p.tables e below (T47.setTop (mkF m 147 #[.val (.long qa), .second, .val (.long qb), .second, .val (.long qd), .second, .val (.long qs), .second, .val (.int vc), .val (.int vk), .val (.int nk), .val (.long q1), .second, .val (.long q2), .second, .val (.long q3), .second, .val (.ref b9), .val (.long ex3), .second] [(.long qs), (.ref b9)])) _
              refine st57.trans ?_
              show Steps p.tables e below (T57.setTop (mkF m 150 #[.val (.long qa), .second, .val (.long qb), .second, .val (.long qd), .second, .val (.long qs), .second, .val (.int vc), .val (.int vk), .val (.int nk), .val (.long q1), .second, .val (.long q2), .second, .val (.long q3), .second, .val (.ref b9), .val (.long ex3), .second] [(.long hd)])) _
              refine XS.lload X57.here hx rfl (hb hby at_150) rfl ?_
              show Steps p.tables e below (T57.setTop (mkF m 152 #[.val (.long qa), .second, .val (.long qb), .second, .val (.long qd), .second, .val (.long qs), .second, .val (.int vc), .val (.int vk), .val (.int nk), .val (.long q1), .second, .val (.long q2), .second, .val (.long q3), .second, .val (.ref b9), .val (.long ex3), .second] [(.long ex3), (.long hd)])) _
              refine XS.lcmp X57.here hx rfl (hb hby at_152) rfl ?_
              show Steps p.tables e below (T57.setTop (mkF m 153 #[.val (.long qa), .second, .val (.long qb), .second, .val (.long qd), .second, .val (.long qs), .second, .val (.int vc), .val (.int vk), .val (.int nk), .val (.long q1), .second, .val (.long q2), .second, .val (.long q3), .second, .val (.ref b9), .val (.long ex3), .second] [(.int (lcmpW hd ex3))])) _
              refine XS.ifNo X57.here hx rfl (hb hby at_153) rfl (own_if (own_teqL (x := hd) (y := ex3) rfl rfl hc153_58).2) ?_
              show Steps p.tables e below (T57.setTop (mkF m 156 #[.val (.long qa), .second, .val (.long qb), .second, .val (.long qd), .second, .val (.long qs), .second, .val (.int vc), .val (.int vk), .val (.int nk), .val (.long q1), .second, .val (.long q2), .second, .val (.long q3), .second, .val (.ref b9), .val (.long ex3), .second] [])) _
              refine XS.iconst X57.here hx rfl (hb hby at_156) ?_
              show Steps p.tables e below (T57.setTop (mkF m 157 #[.val (.long qa), .second, .val (.long qb), .second, .val (.long qd), .second, .val (.long qs), .second, .val (.int vc), .val (.int vk), .val (.int nk), .val (.long q1), .second, .val (.long q2), .second, .val (.long q3), .second, .val (.ref b9), .val (.long ex3), .second] [(.int (1 : Int32))])) _
              refine XS.goto X57.here hx rfl (pc0 := 157) (pc' := 161) rfl (hb hby at_157) (by decide) (by decide) ?_
              show Steps p.tables e below (T57.setTop (mkF m 161 #[.val (.long qa), .second, .val (.long qb), .second, .val (.long qd), .second, .val (.long qs), .second, .val (.int vc), .val (.int vk), .val (.int nk), .val (.long q1), .second, .val (.long q2), .second, .val (.long q3), .second, .val (.ref b9), .val (.long ex3), .second] [(.int (1 : Int32))])) _
              exact retN X57 hx (t := .boolean) Bd.returns (by simp) (hb hby at_161) hr
            · show Q0 Z qa qb qd qs vc vk h0 n0 _ T57.heap _
              rw [e57]
              exact ⟨rfl, N57⟩
          · have own_mark50 := True.intro
            obtain ⟨ex3, hex3, pre63⟩ : ∃ ex3 : Int64, (ex3.toInt = ex2.toInt + own_f qd.toInt qs.toInt q3.toInt ∧ 0 ≤ ex3.toInt ∧ ex3.toInt ≤ 768) ∧ ∀ t, Steps p.tables e below (T47.setTop (mkF m 143 #[.val (.long qa), .second, .val (.long qb), .second, .val (.long qd), .second, .val (.long qs), .second, .val (.int vc), .val (.int vk), .val (.int nk), .val (.long q1), .second, .val (.long q2), .second, .val (.long q3), .second, .val (.ref b9), .val (.long ex3), .second] [])) t → Steps p.tables e below (s₁.setTop (entryFrame m #[(.long qa), (.long qb), (.long qd), (.long qs), (.int vc), (.int vk)] maxLocals)) t := by
              have pre60 : ∀ t, Steps p.tables e below (T47.setTop (mkF m 133 #[.val (.long qa), .second, .val (.long qb), .second, .val (.long qd), .second, .val (.long qs), .second, .val (.int vc), .val (.int vk), .val (.int nk), .val (.long q1), .second, .val (.long q2), .second, .val (.long q3), .second, .val (.ref b9), .val (.long ex2), .second] [(.int (lcmpW qd qs))])) t → Steps p.tables e below (s₁.setTop (entryFrame m #[(.long qa), (.long qb), (.long qd), (.long qs), (.int vc), (.int vk)] maxLocals)) t := fun t kt => by
                refine pre51 _ ?_
                show Steps p.tables e below (T47.setTop (mkF m 128 #[.val (.long qa), .second, .val (.long qb), .second, .val (.long qd), .second, .val (.long qs), .second, .val (.int vc), .val (.int vk), .val (.int nk), .val (.long q1), .second, .val (.long q2), .second, .val (.long q3), .second, .val (.ref b9), .val (.long ex2), .second] [])) _
                refine XS.lload X47.here hx rfl (hb hby at_128) rfl ?_
                show Steps p.tables e below (T47.setTop (mkF m 130 #[.val (.long qa), .second, .val (.long qb), .second, .val (.long qd), .second, .val (.long qs), .second, .val (.int vc), .val (.int vk), .val (.int nk), .val (.long q1), .second, .val (.long q2), .second, .val (.long q3), .second, .val (.ref b9), .val (.long ex2), .second] [(.long qd)])) _
                refine XS.lload X47.here hx rfl (hb hby at_130) rfl ?_
                show Steps p.tables e below (T47.setTop (mkF m 132 #[.val (.long qa), .second, .val (.long qb), .second, .val (.long qd), .second, .val (.long qs), .second, .val (.int vc), .val (.int vk), .val (.int nk), .val (.long q1), .second, .val (.long q2), .second, .val (.long q3), .second, .val (.ref b9), .val (.long ex2), .second] [(.long qs), (.long qd)])) _
                refine XS.lcmp X47.here hx rfl (hb hby at_132) rfl ?_
                exact kt
              by_cases hc133_59 : qs.toInt < qd.toInt
              · have pre61 : ∀ t, Steps p.tables e below (T47.setTop (mkF m 143 #[.val (.long qa), .second, .val (.long qb), .second, .val (.long qd), .second, .val (.long qs), .second, .val (.int vc), .val (.int vk), .val (.int nk), .val (.long q1), .second, .val (.long q2), .second, .val (.long q3), .second, .val (.ref b9), .val (.long ex2), .second] [])) t → Steps p.tables e below (s₁.setTop (entryFrame m #[(.long qa), (.long qb), (.long qd), (.long qs), (.int vc), (.int vk)] maxLocals)) t := fun t kt => by
                  refine pre60 _ ?_
                  show Steps p.tables e below (T47.setTop (mkF m 133 #[.val (.long qa), .second, .val (.long qb), .second, .val (.long qd), .second, .val (.long qs), .second, .val (.int vc), .val (.int vk), .val (.int nk), .val (.long q1), .second, .val (.long q2), .second, .val (.long q3), .second, .val (.ref b9), .val (.long ex2), .second] [(.int (lcmpW qd qs))])) _
                  refine XS.ifYes X47.here hx rfl (pc0 := 133) (pc' := 143) rfl (hb hby at_133) rfl (own_if (own_tgtL (x := qd) (y := qs) rfl rfl hc133_59).1) (by decide) (by decide) ?_
                  exact kt
                exact ⟨ex2, by rw [own_fn (x := qd.toInt) (by omega)]; have := rng64 ex2; omega, pre61⟩
              · have pre62 : ∀ t, Steps p.tables e below (T47.setTop (mkF m 143 #[.val (.long qa), .second, .val (.long qb), .second, .val (.long qd), .second, .val (.long qs), .second, .val (.int vc), .val (.int vk), .val (.int nk), .val (.long q1), .second, .val (.long q2), .second, .val (.long q3), .second, .val (.ref b9), .val (.long (ex2 + q3)), .second] [])) t → Steps p.tables e below (s₁.setTop (entryFrame m #[(.long qa), (.long qb), (.long qd), (.long qs), (.int vc), (.int vk)] maxLocals)) t := fun t kt => by
                  refine pre60 _ ?_
                  show Steps p.tables e below (T47.setTop (mkF m 133 #[.val (.long qa), .second, .val (.long qb), .second, .val (.long qd), .second, .val (.long qs), .second, .val (.int vc), .val (.int vk), .val (.int nk), .val (.long q1), .second, .val (.long q2), .second, .val (.long q3), .second, .val (.ref b9), .val (.long ex2), .second] [(.int (lcmpW qd qs))])) _
                  refine XS.ifNo X47.here hx rfl (hb hby at_133) rfl (own_if (own_fgtL (x := qd) (y := qs) rfl rfl hc133_59).1) ?_
                  show Steps p.tables e below (T47.setTop (mkF m 136 #[.val (.long qa), .second, .val (.long qb), .second, .val (.long qd), .second, .val (.long qs), .second, .val (.int vc), .val (.int vk), .val (.int nk), .val (.long q1), .second, .val (.long q2), .second, .val (.long q3), .second, .val (.ref b9), .val (.long ex2), .second] [])) _
                  refine XS.lload X47.here hx rfl (hb hby at_136) rfl ?_
                  show Steps p.tables e below (T47.setTop (mkF m 138 #[.val (.long qa), .second, .val (.long qb), .second, .val (.long qd), .second, .val (.long qs), .second, .val (.int vc), .val (.int vk), .val (.int nk), .val (.long q1), .second, .val (.long q2), .second, .val (.long q3), .second, .val (.ref b9), .val (.long ex2), .second] [(.long ex2)])) _
                  refine XS.lload X47.here hx rfl (hb hby at_138) rfl ?_
                  show Steps p.tables e below (T47.setTop (mkF m 140 #[.val (.long qa), .second, .val (.long qb), .second, .val (.long qd), .second, .val (.long qs), .second, .val (.int vc), .val (.int vk), .val (.int nk), .val (.long q1), .second, .val (.long q2), .second, .val (.long q3), .second, .val (.ref b9), .val (.long ex2), .second] [(.long q3), (.long ex2)])) _
                  refine XS.ladd X47.here hx rfl (hb hby at_140) rfl ?_
                  show Steps p.tables e below (T47.setTop (mkF m 141 #[.val (.long qa), .second, .val (.long qb), .second, .val (.long qd), .second, .val (.long qs), .second, .val (.int vc), .val (.int vk), .val (.int nk), .val (.long q1), .second, .val (.long q2), .second, .val (.long q3), .second, .val (.ref b9), .val (.long ex2), .second] [(.long (ex2 + q3))])) _
                  refine XS.lstore X47.here hx rfl (hb hby at_141) rfl (l' := #[.val (.long qa), .second, .val (.long qb), .second, .val (.long qd), .second, .val (.long qs), .second, .val (.int vc), .val (.int vk), .val (.int nk), .val (.long q1), .second, .val (.long q2), .second, .val (.long q3), .second, .val (.ref b9), .val (.long (ex2 + q3)), .second]) rfl ?_
                  exact kt
                exact ⟨(ex2 + q3), by rw [own_fp (x := qd.toInt) (by omega)]; have := rng64 ex2; have := rng64 q3; have : (((ex2 + q3)).toInt - (ex2.toInt + q3.toInt)) % 18446744073709551616 = 0 := c_ladd ex2 q3; have := rng64 (ex2 + q3); omega, pre62⟩
            obtain ⟨cq64, kq64, q64a, q64b, q64c⟩ := isOf hZ rfl A47
            obtain ⟨_, _, ⟨T64, L64, k64, n64⟩, -, X64, ⟨Lc64, hQ64, l64, y64, z64⟩, st64⟩ := X47.virtualBack hx (y := (⟨"com/example/foreslot/foreslot/CountsByEnd", "heldUntilAtLatest", "(J)J"⟩ : MethodName)) (z := (⟨"com/example/foreslot/foreslot/CountsByEnd", "heldUntilAtLatest", "(J)J"⟩ : MethodName)) hown (mvT hZ (hw _ (List.mem_of_getElem? (i := 14) rfl))) (mvT hZ (hw _ (List.mem_of_getElem? (i := 15) rfl))) (notFace_of_selects (args := #[]) (mvT hZ (hw _ (List.mem_of_getElem? (i := 17) rfl)))) (mvT hZ (hw _ (List.mem_of_getElem? (i := 17) rfl))) (mvT hZ (hw _ (List.mem_of_getElem? (i := 16) rfl))) (by decide) (backOf (W := 0) (rm_h2 l Z a0 hw [] b9 qs ea ca kE kC y50_0 y50_1 d50_0 d50_1 T47.heap n0 Zs48 A47 Fe47 Fc47 F2_50 V0_50 V1_50 (by omega) (by omega) (by omega) (by omega)) hZ (hw _ (List.mem_of_getElem? (i := 18) rfl)) (hw _ (List.mem_of_getElem? (i := 2) rfl)) (by decide) (by decide)) q64a q64c (g := (mkF m 147 #[.val (.long qa), .second, .val (.long qb), .second, .val (.long qd), .second, .val (.long qs), .second, .val (.int vc), .val (.int vk), .val (.int nk), .val (.long q1), .second, .val (.long q2), .second, .val (.long q3), .second, .val (.ref b9), .val (.long ex3), .second] [(.long qs), (.ref b9)])) rfl (by rw [hml]; rfl) (Steps.refl _) (argsL := [(.long qs)]) (rest := []) (lenOf pd_3 rfl) rfl (by show 2 * 0 + _ ≤ _; exact Nat.le_of_eq rfl) (hb hby at_147) (fun _ _ => ⟨rfl, rfl, (by decide : 3 + 0 ≤ _), (by decide : 35 + 0 ≤ _)⟩)
            dsimp only [Pt.U, Pt.locs, Pt.cells, Pt.slots] at X64 l64 y64 z64 st64 hQ64
            subst l64 y64 z64
            obtain ⟨hd, rfl, hhd, N64q, e64⟩ := hQ64
            have N64 := Fr.app N47 N64q
            have hc153_65 : hd.toInt = ex3.toInt := by have := hs_21 qs.toInt; have := hs_35 qs.toInt; have := hs_50 qs.toInt; omega
            obtain ⟨fs, hr, hrun, hended, hW, hsame⟩ := X64.leave (v := some (.int (1 : Int32))) (fun h => by rw [Bd.returns] at h; cases h)
            refine ⟨_, _, pre63 _ ?_, hrun, hended, _, _, rfl, ?_, ⟨_, rfl⟩, hW, hsame.mono (by decide) (by decide)⟩
            · show Steps p.tables e below (T47.setTop (mkF m 143 #[.val (.long qa), .second, .val (.long qb), .second, .val (.long qd), .second, .val (.long qs), .second, .val (.int vc), .val (.int vk), .val (.int nk), .val (.long q1), .second, .val (.long q2), .second, .val (.long q3), .second, .val (.ref b9), .val (.long ex3), .second] [])) _
              refine XS.aload X47.here hx rfl (hb hby at_143) rfl rfl ?_
              show Steps p.tables e below (T47.setTop (mkF m 145 #[.val (.long qa), .second, .val (.long qb), .second, .val (.long qd), .second, .val (.long qs), .second, .val (.int vc), .val (.int vk), .val (.int nk), .val (.long q1), .second, .val (.long q2), .second, .val (.long q3), .second, .val (.ref b9), .val (.long ex3), .second] [(.ref b9)])) _
              refine XS.lload X47.here hx rfl (hb hby at_145) rfl ?_
              show Steps p.tables e below (T47.setTop (mkF m 147 #[.val (.long qa), .second, .val (.long qb), .second, .val (.long qd), .second, .val (.long qs), .second, .val (.int vc), .val (.int vk), .val (.int nk), .val (.long q1), .second, .val (.long q2), .second, .val (.long q3), .second, .val (.ref b9), .val (.long ex3), .second] [(.long qs), (.ref b9)])) _
              refine st64.trans ?_
              show Steps p.tables e below (T64.setTop (mkF m 150 #[.val (.long qa), .second, .val (.long qb), .second, .val (.long qd), .second, .val (.long qs), .second, .val (.int vc), .val (.int vk), .val (.int nk), .val (.long q1), .second, .val (.long q2), .second, .val (.long q3), .second, .val (.ref b9), .val (.long ex3), .second] [(.long hd)])) _
              refine XS.lload X64.here hx rfl (hb hby at_150) rfl ?_
              show Steps p.tables e below (T64.setTop (mkF m 152 #[.val (.long qa), .second, .val (.long qb), .second, .val (.long qd), .second, .val (.long qs), .second, .val (.int vc), .val (.int vk), .val (.int nk), .val (.long q1), .second, .val (.long q2), .second, .val (.long q3), .second, .val (.ref b9), .val (.long ex3), .second] [(.long ex3), (.long hd)])) _
              refine XS.lcmp X64.here hx rfl (hb hby at_152) rfl ?_
              show Steps p.tables e below (T64.setTop (mkF m 153 #[.val (.long qa), .second, .val (.long qb), .second, .val (.long qd), .second, .val (.long qs), .second, .val (.int vc), .val (.int vk), .val (.int nk), .val (.long q1), .second, .val (.long q2), .second, .val (.long q3), .second, .val (.ref b9), .val (.long ex3), .second] [(.int (lcmpW hd ex3))])) _
              refine XS.ifNo X64.here hx rfl (hb hby at_153) rfl (own_if (own_teqL (x := hd) (y := ex3) rfl rfl hc153_65).2) ?_
              show Steps p.tables e below (T64.setTop (mkF m 156 #[.val (.long qa), .second, .val (.long qb), .second, .val (.long qd), .second, .val (.long qs), .second, .val (.int vc), .val (.int vk), .val (.int nk), .val (.long q1), .second, .val (.long q2), .second, .val (.long q3), .second, .val (.ref b9), .val (.long ex3), .second] [])) _
              refine XS.iconst X64.here hx rfl (hb hby at_156) ?_
              show Steps p.tables e below (T64.setTop (mkF m 157 #[.val (.long qa), .second, .val (.long qb), .second, .val (.long qd), .second, .val (.long qs), .second, .val (.int vc), .val (.int vk), .val (.int nk), .val (.long q1), .second, .val (.long q2), .second, .val (.long q3), .second, .val (.ref b9), .val (.long ex3), .second] [(.int (1 : Int32))])) _
              refine XS.goto X64.here hx rfl (pc0 := 157) (pc' := 161) rfl (hb hby at_157) (by decide) (by decide) ?_
              show Steps p.tables e below (T64.setTop (mkF m 161 #[.val (.long qa), .second, .val (.long qb), .second, .val (.long qd), .second, .val (.long qs), .second, .val (.int vc), .val (.int vk), .val (.int nk), .val (.long q1), .second, .val (.long q2), .second, .val (.long q3), .second, .val (.ref b9), .val (.long ex3), .second] [(.int (1 : Int32))])) _
              exact retN X64 hx (t := .boolean) Bd.returns (by simp) (hb hby at_161) hr
            · show Q0 Z qa qb qd qs vc vk h0 n0 _ T64.heap _
              rw [e64]
              exact ⟨rfl, N64⟩
      · have own_mark36 := True.intro
        obtain ⟨ex2, hex2, pre70⟩ : ∃ ex2 : Int64, (ex2.toInt = ex1.toInt + own_f qb.toInt qs.toInt q2.toInt ∧ 0 ≤ ex2.toInt ∧ ex2.toInt ≤ 512) ∧ ∀ t, Steps p.tables e below (T33.setTop (mkF m 113 #[.val (.long qa), .second, .val (.long qb), .second, .val (.long qd), .second, .val (.long qs), .second, .val (.int vc), .val (.int vk), .val (.int nk), .val (.long q1), .second, .val (.long q2), .second, .val (.long q3), .second, .val (.ref b9), .val (.long ex2), .second] [])) t → Steps p.tables e below (s₁.setTop (entryFrame m #[(.long qa), (.long qb), (.long qd), (.long qs), (.int vc), (.int vk)] maxLocals)) t := by
          have pre67 : ∀ t, Steps p.tables e below (T33.setTop (mkF m 103 #[.val (.long qa), .second, .val (.long qb), .second, .val (.long qd), .second, .val (.long qs), .second, .val (.int vc), .val (.int vk), .val (.int nk), .val (.long q1), .second, .val (.long q2), .second, .val (.long q3), .second, .val (.ref b9), .val (.long ex1), .second] [(.int (lcmpW qb qs))])) t → Steps p.tables e below (s₁.setTop (entryFrame m #[(.long qa), (.long qb), (.long qd), (.long qs), (.int vc), (.int vk)] maxLocals)) t := fun t kt => by
            refine pre37 _ ?_
            show Steps p.tables e below (T33.setTop (mkF m 99 #[.val (.long qa), .second, .val (.long qb), .second, .val (.long qd), .second, .val (.long qs), .second, .val (.int vc), .val (.int vk), .val (.int nk), .val (.long q1), .second, .val (.long q2), .second, .val (.long q3), .second, .val (.ref b9), .val (.long ex1), .second] [])) _
            refine XS.lloadN X33.here hx rfl (hb hby at_99) rfl ?_
            show Steps p.tables e below (T33.setTop (mkF m 100 #[.val (.long qa), .second, .val (.long qb), .second, .val (.long qd), .second, .val (.long qs), .second, .val (.int vc), .val (.int vk), .val (.int nk), .val (.long q1), .second, .val (.long q2), .second, .val (.long q3), .second, .val (.ref b9), .val (.long ex1), .second] [(.long qb)])) _
            refine XS.lload X33.here hx rfl (hb hby at_100) rfl ?_
            show Steps p.tables e below (T33.setTop (mkF m 102 #[.val (.long qa), .second, .val (.long qb), .second, .val (.long qd), .second, .val (.long qs), .second, .val (.int vc), .val (.int vk), .val (.int nk), .val (.long q1), .second, .val (.long q2), .second, .val (.long q3), .second, .val (.ref b9), .val (.long ex1), .second] [(.long qs), (.long qb)])) _
            refine XS.lcmp X33.here hx rfl (hb hby at_102) rfl ?_
            exact kt
          by_cases hc103_66 : qs.toInt < qb.toInt
          · have pre68 : ∀ t, Steps p.tables e below (T33.setTop (mkF m 113 #[.val (.long qa), .second, .val (.long qb), .second, .val (.long qd), .second, .val (.long qs), .second, .val (.int vc), .val (.int vk), .val (.int nk), .val (.long q1), .second, .val (.long q2), .second, .val (.long q3), .second, .val (.ref b9), .val (.long ex1), .second] [])) t → Steps p.tables e below (s₁.setTop (entryFrame m #[(.long qa), (.long qb), (.long qd), (.long qs), (.int vc), (.int vk)] maxLocals)) t := fun t kt => by
              refine pre67 _ ?_
              show Steps p.tables e below (T33.setTop (mkF m 103 #[.val (.long qa), .second, .val (.long qb), .second, .val (.long qd), .second, .val (.long qs), .second, .val (.int vc), .val (.int vk), .val (.int nk), .val (.long q1), .second, .val (.long q2), .second, .val (.long q3), .second, .val (.ref b9), .val (.long ex1), .second] [(.int (lcmpW qb qs))])) _
              refine XS.ifYes X33.here hx rfl (pc0 := 103) (pc' := 113) rfl (hb hby at_103) rfl (own_if (own_tgtL (x := qb) (y := qs) rfl rfl hc103_66).1) (by decide) (by decide) ?_
              exact kt
            exact ⟨ex1, by rw [own_fn (x := qb.toInt) (by omega)]; have := rng64 ex1; omega, pre68⟩
          · have pre69 : ∀ t, Steps p.tables e below (T33.setTop (mkF m 113 #[.val (.long qa), .second, .val (.long qb), .second, .val (.long qd), .second, .val (.long qs), .second, .val (.int vc), .val (.int vk), .val (.int nk), .val (.long q1), .second, .val (.long q2), .second, .val (.long q3), .second, .val (.ref b9), .val (.long (ex1 + q2)), .second] [])) t → Steps p.tables e below (s₁.setTop (entryFrame m #[(.long qa), (.long qb), (.long qd), (.long qs), (.int vc), (.int vk)] maxLocals)) t := fun t kt => by
              refine pre67 _ ?_
              show Steps p.tables e below (T33.setTop (mkF m 103 #[.val (.long qa), .second, .val (.long qb), .second, .val (.long qd), .second, .val (.long qs), .second, .val (.int vc), .val (.int vk), .val (.int nk), .val (.long q1), .second, .val (.long q2), .second, .val (.long q3), .second, .val (.ref b9), .val (.long ex1), .second] [(.int (lcmpW qb qs))])) _
              refine XS.ifNo X33.here hx rfl (hb hby at_103) rfl (own_if (own_fgtL (x := qb) (y := qs) rfl rfl hc103_66).1) ?_
              show Steps p.tables e below (T33.setTop (mkF m 106 #[.val (.long qa), .second, .val (.long qb), .second, .val (.long qd), .second, .val (.long qs), .second, .val (.int vc), .val (.int vk), .val (.int nk), .val (.long q1), .second, .val (.long q2), .second, .val (.long q3), .second, .val (.ref b9), .val (.long ex1), .second] [])) _
              refine XS.lload X33.here hx rfl (hb hby at_106) rfl ?_
              show Steps p.tables e below (T33.setTop (mkF m 108 #[.val (.long qa), .second, .val (.long qb), .second, .val (.long qd), .second, .val (.long qs), .second, .val (.int vc), .val (.int vk), .val (.int nk), .val (.long q1), .second, .val (.long q2), .second, .val (.long q3), .second, .val (.ref b9), .val (.long ex1), .second] [(.long ex1)])) _
              refine XS.lload X33.here hx rfl (hb hby at_108) rfl ?_
              show Steps p.tables e below (T33.setTop (mkF m 110 #[.val (.long qa), .second, .val (.long qb), .second, .val (.long qd), .second, .val (.long qs), .second, .val (.int vc), .val (.int vk), .val (.int nk), .val (.long q1), .second, .val (.long q2), .second, .val (.long q3), .second, .val (.ref b9), .val (.long ex1), .second] [(.long q2), (.long ex1)])) _
              refine XS.ladd X33.here hx rfl (hb hby at_110) rfl ?_
              show Steps p.tables e below (T33.setTop (mkF m 111 #[.val (.long qa), .second, .val (.long qb), .second, .val (.long qd), .second, .val (.long qs), .second, .val (.int vc), .val (.int vk), .val (.int nk), .val (.long q1), .second, .val (.long q2), .second, .val (.long q3), .second, .val (.ref b9), .val (.long ex1), .second] [(.long (ex1 + q2))])) _
              refine XS.lstore X33.here hx rfl (hb hby at_111) rfl (l' := #[.val (.long qa), .second, .val (.long qb), .second, .val (.long qd), .second, .val (.long qs), .second, .val (.int vc), .val (.int vk), .val (.int nk), .val (.long q1), .second, .val (.long q2), .second, .val (.long q3), .second, .val (.ref b9), .val (.long (ex1 + q2)), .second]) rfl ?_
              exact kt
            exact ⟨(ex1 + q2), by rw [own_fp (x := qb.toInt) (by omega)]; have := rng64 ex1; have := rng64 q2; have : (((ex1 + q2)).toInt - (ex1.toInt + q2.toInt)) % 18446744073709551616 = 0 := c_ladd ex1 q2; have := rng64 (ex1 + q2); omega, pre69⟩
        have pre72 : ∀ t, Steps p.tables e below (T33.setTop (mkF m 116 #[.val (.long qa), .second, .val (.long qb), .second, .val (.long qd), .second, .val (.long qs), .second, .val (.int vc), .val (.int vk), .val (.int nk), .val (.long q1), .second, .val (.long q2), .second, .val (.long q3), .second, .val (.ref b9), .val (.long ex2), .second] [(.int (3 : Int32)), (.int nk)])) t → Steps p.tables e below (s₁.setTop (entryFrame m #[(.long qa), (.long qb), (.long qd), (.long qs), (.int vc), (.int vk)] maxLocals)) t := fun t kt => by
          refine pre70 _ ?_
          show Steps p.tables e below (T33.setTop (mkF m 113 #[.val (.long qa), .second, .val (.long qb), .second, .val (.long qd), .second, .val (.long qs), .second, .val (.int vc), .val (.int vk), .val (.int nk), .val (.long q1), .second, .val (.long q2), .second, .val (.long q3), .second, .val (.ref b9), .val (.long ex2), .second] [])) _
          refine XS.iload X33.here hx rfl (hb hby at_113) rfl ?_
          show Steps p.tables e below (T33.setTop (mkF m 115 #[.val (.long qa), .second, .val (.long qb), .second, .val (.long qd), .second, .val (.long qs), .second, .val (.int vc), .val (.int vk), .val (.int nk), .val (.long q1), .second, .val (.long q2), .second, .val (.long q3), .second, .val (.ref b9), .val (.long ex2), .second] [(.int nk)])) _
          refine XS.iconst X33.here hx rfl (hb hby at_115) ?_
          exact kt
        by_cases hc116_71 : nk.toInt < (3 : Int)
        · obtain ⟨cq73, kq73, q73a, q73b, q73c⟩ := isOf hZ rfl A33
          obtain ⟨_, _, ⟨T73, L73, k73, n73⟩, -, X73, ⟨Lc73, hQ73, l73, y73, z73⟩, st73⟩ := X33.virtualBack hx (y := (⟨"com/example/foreslot/foreslot/CountsByEnd", "heldUntilAtLatest", "(J)J"⟩ : MethodName)) (z := (⟨"com/example/foreslot/foreslot/CountsByEnd", "heldUntilAtLatest", "(J)J"⟩ : MethodName)) hown (mvT hZ (hw _ (List.mem_of_getElem? (i := 14) rfl))) (mvT hZ (hw _ (List.mem_of_getElem? (i := 15) rfl))) (notFace_of_selects (args := #[]) (mvT hZ (hw _ (List.mem_of_getElem? (i := 17) rfl)))) (mvT hZ (hw _ (List.mem_of_getElem? (i := 17) rfl))) (mvT hZ (hw _ (List.mem_of_getElem? (i := 16) rfl))) (by decide) (backOf (W := 0) (rm_h2 l Z a0 hw [] b9 qs ea ca kE kC y36_0 y36_1 d36_0 d36_1 T33.heap n0 Zs34 A33 Fe33 Fc33 F2_36 V0_36 V1_36 (by omega) (by omega) (by omega) (by omega)) hZ (hw _ (List.mem_of_getElem? (i := 18) rfl)) (hw _ (List.mem_of_getElem? (i := 2) rfl)) (by decide) (by decide)) q73a q73c (g := (mkF m 147 #[.val (.long qa), .second, .val (.long qb), .second, .val (.long qd), .second, .val (.long qs), .second, .val (.int vc), .val (.int vk), .val (.int nk), .val (.long q1), .second, .val (.long q2), .second, .val (.long q3), .second, .val (.ref b9), .val (.long ex2), .second] [(.long qs), (.ref b9)])) rfl (by rw [hml]; rfl) (Steps.refl _) (argsL := [(.long qs)]) (rest := []) (lenOf pd_3 rfl) rfl (by show 2 * 0 + _ ≤ _; exact Nat.le_of_eq rfl) (hb hby at_147) (fun _ _ => ⟨rfl, rfl, (by decide : 3 + 0 ≤ _), (by decide : 35 + 0 ≤ _)⟩)
          dsimp only [Pt.U, Pt.locs, Pt.cells, Pt.slots] at X73 l73 y73 z73 st73 hQ73
          subst l73 y73 z73
          obtain ⟨hd, rfl, hhd, N73q, e73⟩ := hQ73
          have N73 := Fr.app N33 N73q
          have hc153_74 : hd.toInt = ex2.toInt := by have := hs_21 qs.toInt; have := hs_36 qs.toInt; omega
          obtain ⟨fs, hr, hrun, hended, hW, hsame⟩ := X73.leave (v := some (.int (1 : Int32))) (fun h => by rw [Bd.returns] at h; cases h)
          refine ⟨_, _, pre72 _ ?_, hrun, hended, _, _, rfl, ?_, ⟨_, rfl⟩, hW, hsame.mono (by decide) (by decide)⟩
          · show Steps p.tables e below (T33.setTop (mkF m 116 #[.val (.long qa), .second, .val (.long qb), .second, .val (.long qd), .second, .val (.long qs), .second, .val (.int vc), .val (.int vk), .val (.int nk), .val (.long q1), .second, .val (.long q2), .second, .val (.long q3), .second, .val (.ref b9), .val (.long ex2), .second] [(.int (3 : Int32)), (.int nk)])) _
            refine XS.icmpYes X33.here hx rfl (pc0 := 116) (pc' := 143) rfl (hb hby at_116) rfl (own_tlt (a := nk) (b := (3 : Int32)) rfl (by decide) hc116_71).1 (by decide) (by decide) ?_
            show Steps p.tables e below (T33.setTop (mkF m 143 #[.val (.long qa), .second, .val (.long qb), .second, .val (.long qd), .second, .val (.long qs), .second, .val (.int vc), .val (.int vk), .val (.int nk), .val (.long q1), .second, .val (.long q2), .second, .val (.long q3), .second, .val (.ref b9), .val (.long ex2), .second] [])) _
            refine XS.aload X33.here hx rfl (hb hby at_143) rfl rfl ?_
            show Steps p.tables e below (T33.setTop (mkF m 145 #[.val (.long qa), .second, .val (.long qb), .second, .val (.long qd), .second, .val (.long qs), .second, .val (.int vc), .val (.int vk), .val (.int nk), .val (.long q1), .second, .val (.long q2), .second, .val (.long q3), .second, .val (.ref b9), .val (.long ex2), .second] [(.ref b9)])) _
            refine XS.lload X33.here hx rfl (hb hby at_145) rfl ?_
            show Steps p.tables e below (T33.setTop (mkF m 147 #[.val (.long qa), .second, .val (.long qb), .second, .val (.long qd), .second, .val (.long qs), .second, .val (.int vc), .val (.int vk), .val (.int nk), .val (.long q1), .second, .val (.long q2), .second, .val (.long q3), .second, .val (.ref b9), .val (.long ex2), .second] [(.long qs), (.ref b9)])) _
            refine st73.trans ?_
            show Steps p.tables e below (T73.setTop (mkF m 150 #[.val (.long qa), .second, .val (.long qb), .second, .val (.long qd), .second, .val (.long qs), .second, .val (.int vc), .val (.int vk), .val (.int nk), .val (.long q1), .second, .val (.long q2), .second, .val (.long q3), .second, .val (.ref b9), .val (.long ex2), .second] [(.long hd)])) _
            refine XS.lload X73.here hx rfl (hb hby at_150) rfl ?_
            show Steps p.tables e below (T73.setTop (mkF m 152 #[.val (.long qa), .second, .val (.long qb), .second, .val (.long qd), .second, .val (.long qs), .second, .val (.int vc), .val (.int vk), .val (.int nk), .val (.long q1), .second, .val (.long q2), .second, .val (.long q3), .second, .val (.ref b9), .val (.long ex2), .second] [(.long ex2), (.long hd)])) _
            refine XS.lcmp X73.here hx rfl (hb hby at_152) rfl ?_
            show Steps p.tables e below (T73.setTop (mkF m 153 #[.val (.long qa), .second, .val (.long qb), .second, .val (.long qd), .second, .val (.long qs), .second, .val (.int vc), .val (.int vk), .val (.int nk), .val (.long q1), .second, .val (.long q2), .second, .val (.long q3), .second, .val (.ref b9), .val (.long ex2), .second] [(.int (lcmpW hd ex2))])) _
            refine XS.ifNo X73.here hx rfl (hb hby at_153) rfl (own_if (own_teqL (x := hd) (y := ex2) rfl rfl hc153_74).2) ?_
            show Steps p.tables e below (T73.setTop (mkF m 156 #[.val (.long qa), .second, .val (.long qb), .second, .val (.long qd), .second, .val (.long qs), .second, .val (.int vc), .val (.int vk), .val (.int nk), .val (.long q1), .second, .val (.long q2), .second, .val (.long q3), .second, .val (.ref b9), .val (.long ex2), .second] [])) _
            refine XS.iconst X73.here hx rfl (hb hby at_156) ?_
            show Steps p.tables e below (T73.setTop (mkF m 157 #[.val (.long qa), .second, .val (.long qb), .second, .val (.long qd), .second, .val (.long qs), .second, .val (.int vc), .val (.int vk), .val (.int nk), .val (.long q1), .second, .val (.long q2), .second, .val (.long q3), .second, .val (.ref b9), .val (.long ex2), .second] [(.int (1 : Int32))])) _
            refine XS.goto X73.here hx rfl (pc0 := 157) (pc' := 161) rfl (hb hby at_157) (by decide) (by decide) ?_
            show Steps p.tables e below (T73.setTop (mkF m 161 #[.val (.long qa), .second, .val (.long qb), .second, .val (.long qd), .second, .val (.long qs), .second, .val (.int vc), .val (.int vk), .val (.int nk), .val (.long q1), .second, .val (.long q2), .second, .val (.long q3), .second, .val (.ref b9), .val (.long ex2), .second] [(.int (1 : Int32))])) _
            exact retN X73 hx (t := .boolean) Bd.returns (by simp) (hb hby at_161) hr
          · show Q0 Z qa qb qd qs vc vk h0 n0 _ T73.heap _
            rw [e73]
            exact ⟨rfl, N73⟩
        · obtain ⟨cq75, kq75, q75a, q75b, q75c⟩ := isOf hZ rfl A33
          obtain ⟨_, _, ⟨T75, L75, k75, n75⟩, -, X75, ⟨Lc75, hQ75, l75, y75, z75⟩, st75⟩ := X33.virtualBack hx (y := (⟨"com/example/foreslot/foreslot/CountsByEnd", "add", "(JJ)V"⟩ : MethodName)) (z := (⟨"com/example/foreslot/foreslot/CountsByEnd", "add", "(JJ)V"⟩ : MethodName)) hown (mvT hZ (hw _ (List.mem_of_getElem? (i := 21) rfl))) (mvT hZ (hw _ (List.mem_of_getElem? (i := 22) rfl))) (notFace_of_selects (args := #[]) (mvT hZ (hw _ (List.mem_of_getElem? (i := 24) rfl)))) (mvT hZ (hw _ (List.mem_of_getElem? (i := 24) rfl))) (mvT hZ (hw _ (List.mem_of_getElem? (i := 23) rfl))) (by decide) (backOf (W := 0) (rm_add2 l Z a0 hw [] b9 qd q3 ea ca kE kC y36_0 y36_1 d36_0 d36_1 T33.heap n0 Zs34 A33 Fe33 Fc33 F2_36 V0_36 V1_36 g_b9 ge gc nae nac nec (by omega) (by omega) (by omega) (by omega) (by omega)) hZ (hw _ (List.mem_of_getElem? (i := 25) rfl)) (hw _ (List.mem_of_getElem? (i := 2) rfl)) (by decide) (by decide)) q75a q75c (g := (mkF m 125 #[.val (.long qa), .second, .val (.long qb), .second, .val (.long qd), .second, .val (.long qs), .second, .val (.int vc), .val (.int vk), .val (.int nk), .val (.long q1), .second, .val (.long q2), .second, .val (.long q3), .second, .val (.ref b9), .val (.long ex2), .second] [(.long q3), (.long qd), (.ref b9)])) rfl (by rw [hml]; rfl) (Steps.refl _) (argsL := [(.long qd), (.long q3)]) (rest := []) (lenOf pd_4 rfl) rfl (by show 2 * 0 + _ ≤ _; exact Nat.le_of_eq rfl) (hb hby at_125) (fun _ _ => ⟨rfl, rfl, (by decide : 3 + 0 ≤ _), (by decide : 35 + 0 ≤ _)⟩)
          dsimp only [Pt.U, Pt.locs, Pt.cells, Pt.slots] at X75 l75 y75 z75 st75 hQ75
          subst l75 y75 z75
          obtain ⟨rfl, N75q, K75, A75, Fe75, Fc75, hO75⟩ := hQ75
          have N75 := Fr.app N33 N75q
          have Zs76 : n0 ≤ T75.heap.size := Nat.le_trans Zs34 K75.1
          have pre79 : ∀ t, Steps p.tables e below (T75.setTop (mkF m 128 #[.val (.long qa), .second, .val (.long qb), .second, .val (.long qd), .second, .val (.long qs), .second, .val (.int vc), .val (.int vk), .val (.int nk), .val (.long q1), .second, .val (.long q2), .second, .val (.long q3), .second, .val (.ref b9), .val (.long ex2), .second] [])) t → Steps p.tables e below (s₁.setTop (entryFrame m #[(.long qa), (.long qb), (.long qd), (.long qs), (.int vc), (.int vk)] maxLocals)) t := fun t kt => by
            refine pre72 _ ?_
            show Steps p.tables e below (T33.setTop (mkF m 116 #[.val (.long qa), .second, .val (.long qb), .second, .val (.long qd), .second, .val (.long qs), .second, .val (.int vc), .val (.int vk), .val (.int nk), .val (.long q1), .second, .val (.long q2), .second, .val (.long q3), .second, .val (.ref b9), .val (.long ex2), .second] [(.int (3 : Int32)), (.int nk)])) _
            refine XS.icmpNo X33.here hx rfl (hb hby at_116) rfl (own_flt (a := nk) (b := (3 : Int32)) rfl (by decide) hc116_71).1 ?_
            show Steps p.tables e below (T33.setTop (mkF m 119 #[.val (.long qa), .second, .val (.long qb), .second, .val (.long qd), .second, .val (.long qs), .second, .val (.int vc), .val (.int vk), .val (.int nk), .val (.long q1), .second, .val (.long q2), .second, .val (.long q3), .second, .val (.ref b9), .val (.long ex2), .second] [])) _
            refine XS.aload X33.here hx rfl (hb hby at_119) rfl rfl ?_
            show Steps p.tables e below (T33.setTop (mkF m 121 #[.val (.long qa), .second, .val (.long qb), .second, .val (.long qd), .second, .val (.long qs), .second, .val (.int vc), .val (.int vk), .val (.int nk), .val (.long q1), .second, .val (.long q2), .second, .val (.long q3), .second, .val (.ref b9), .val (.long ex2), .second] [(.ref b9)])) _
            refine XS.lload X33.here hx rfl (hb hby at_121) rfl ?_
            show Steps p.tables e below (T33.setTop (mkF m 123 #[.val (.long qa), .second, .val (.long qb), .second, .val (.long qd), .second, .val (.long qs), .second, .val (.int vc), .val (.int vk), .val (.int nk), .val (.long q1), .second, .val (.long q2), .second, .val (.long q3), .second, .val (.ref b9), .val (.long ex2), .second] [(.long qd), (.ref b9)])) _
            refine XS.lload X33.here hx rfl (hb hby at_123) rfl ?_
            show Steps p.tables e below (T33.setTop (mkF m 125 #[.val (.long qa), .second, .val (.long qb), .second, .val (.long qd), .second, .val (.long qs), .second, .val (.int vc), .val (.int vk), .val (.int nk), .val (.long q1), .second, .val (.long q2), .second, .val (.long q3), .second, .val (.ref b9), .val (.long ex2), .second] [(.long q3), (.long qd), (.ref b9)])) _
            refine st75.trans ?_
            exact kt
          rcases hO75 with ⟨y77_0, y77_1, d77_0, d77_1, F2_77, V0_77, V1_77, o77_0, p77_0, p77_1, t_77, hs_77⟩ | ⟨y78_0, y78_1, y78_2, d78_0, d78_1, d78_2, F2_78, V0_78, V1_78, o78_0, o78_1, p78_0, p78_1, p78_2, t_78, hs_78⟩
          · have own_mark77 := True.intro
            obtain ⟨ex3, hex3, pre84⟩ : ∃ ex3 : Int64, (ex3.toInt = ex2.toInt + own_f qd.toInt qs.toInt q3.toInt ∧ 0 ≤ ex3.toInt ∧ ex3.toInt ≤ 768) ∧ ∀ t, Steps p.tables e below (T75.setTop (mkF m 143 #[.val (.long qa), .second, .val (.long qb), .second, .val (.long qd), .second, .val (.long qs), .second, .val (.int vc), .val (.int vk), .val (.int nk), .val (.long q1), .second, .val (.long q2), .second, .val (.long q3), .second, .val (.ref b9), .val (.long ex3), .second] [])) t → Steps p.tables e below (s₁.setTop (entryFrame m #[(.long qa), (.long qb), (.long qd), (.long qs), (.int vc), (.int vk)] maxLocals)) t := by
              have pre81 : ∀ t, Steps p.tables e below (T75.setTop (mkF m 133 #[.val (.long qa), .second, .val (.long qb), .second, .val (.long qd), .second, .val (.long qs), .second, .val (.int vc), .val (.int vk), .val (.int nk), .val (.long q1), .second, .val (.long q2), .second, .val (.long q3), .second, .val (.ref b9), .val (.long ex2), .second] [(.int (lcmpW qd qs))])) t → Steps p.tables e below (s₁.setTop (entryFrame m #[(.long qa), (.long qb), (.long qd), (.long qs), (.int vc), (.int vk)] maxLocals)) t := fun t kt => by
                refine pre79 _ ?_
                show Steps p.tables e below (T75.setTop (mkF m 128 #[.val (.long qa), .second, .val (.long qb), .second, .val (.long qd), .second, .val (.long qs), .second, .val (.int vc), .val (.int vk), .val (.int nk), .val (.long q1), .second, .val (.long q2), .second, .val (.long q3), .second, .val (.ref b9), .val (.long ex2), .second] [])) _
                refine XS.lload X75.here hx rfl (hb hby at_128) rfl ?_
                show Steps p.tables e below (T75.setTop (mkF m 130 #[.val (.long qa), .second, .val (.long qb), .second, .val (.long qd), .second, .val (.long qs), .second, .val (.int vc), .val (.int vk), .val (.int nk), .val (.long q1), .second, .val (.long q2), .second, .val (.long q3), .second, .val (.ref b9), .val (.long ex2), .second] [(.long qd)])) _
                refine XS.lload X75.here hx rfl (hb hby at_130) rfl ?_
                show Steps p.tables e below (T75.setTop (mkF m 132 #[.val (.long qa), .second, .val (.long qb), .second, .val (.long qd), .second, .val (.long qs), .second, .val (.int vc), .val (.int vk), .val (.int nk), .val (.long q1), .second, .val (.long q2), .second, .val (.long q3), .second, .val (.ref b9), .val (.long ex2), .second] [(.long qs), (.long qd)])) _
                refine XS.lcmp X75.here hx rfl (hb hby at_132) rfl ?_
                exact kt
              by_cases hc133_80 : qs.toInt < qd.toInt
              · have pre82 : ∀ t, Steps p.tables e below (T75.setTop (mkF m 143 #[.val (.long qa), .second, .val (.long qb), .second, .val (.long qd), .second, .val (.long qs), .second, .val (.int vc), .val (.int vk), .val (.int nk), .val (.long q1), .second, .val (.long q2), .second, .val (.long q3), .second, .val (.ref b9), .val (.long ex2), .second] [])) t → Steps p.tables e below (s₁.setTop (entryFrame m #[(.long qa), (.long qb), (.long qd), (.long qs), (.int vc), (.int vk)] maxLocals)) t := fun t kt => by
                  refine pre81 _ ?_
                  show Steps p.tables e below (T75.setTop (mkF m 133 #[.val (.long qa), .second, .val (.long qb), .second, .val (.long qd), .second, .val (.long qs), .second, .val (.int vc), .val (.int vk), .val (.int nk), .val (.long q1), .second, .val (.long q2), .second, .val (.long q3), .second, .val (.ref b9), .val (.long ex2), .second] [(.int (lcmpW qd qs))])) _
                  refine XS.ifYes X75.here hx rfl (pc0 := 133) (pc' := 143) rfl (hb hby at_133) rfl (own_if (own_tgtL (x := qd) (y := qs) rfl rfl hc133_80).1) (by decide) (by decide) ?_
                  exact kt
                exact ⟨ex2, by rw [own_fn (x := qd.toInt) (by omega)]; have := rng64 ex2; omega, pre82⟩
              · have pre83 : ∀ t, Steps p.tables e below (T75.setTop (mkF m 143 #[.val (.long qa), .second, .val (.long qb), .second, .val (.long qd), .second, .val (.long qs), .second, .val (.int vc), .val (.int vk), .val (.int nk), .val (.long q1), .second, .val (.long q2), .second, .val (.long q3), .second, .val (.ref b9), .val (.long (ex2 + q3)), .second] [])) t → Steps p.tables e below (s₁.setTop (entryFrame m #[(.long qa), (.long qb), (.long qd), (.long qs), (.int vc), (.int vk)] maxLocals)) t := fun t kt => by
                  refine pre81 _ ?_
                  show Steps p.tables e below (T75.setTop (mkF m 133 #[.val (.long qa), .second, .val (.long qb), .second, .val (.long qd), .second, .val (.long qs), .second, .val (.int vc), .val (.int vk), .val (.int nk), .val (.long q1), .second, .val (.long q2), .second, .val (.long q3), .second, .val (.ref b9), .val (.long ex2), .second] [(.int (lcmpW qd qs))])) _
                  refine XS.ifNo X75.here hx rfl (hb hby at_133) rfl (own_if (own_fgtL (x := qd) (y := qs) rfl rfl hc133_80).1) ?_
                  show Steps p.tables e below (T75.setTop (mkF m 136 #[.val (.long qa), .second, .val (.long qb), .second, .val (.long qd), .second, .val (.long qs), .second, .val (.int vc), .val (.int vk), .val (.int nk), .val (.long q1), .second, .val (.long q2), .second, .val (.long q3), .second, .val (.ref b9), .val (.long ex2), .second] [])) _
                  refine XS.lload X75.here hx rfl (hb hby at_136) rfl ?_
                  show Steps p.tables e below (T75.setTop (mkF m 138 #[.val (.long qa), .second, .val (.long qb), .second, .val (.long qd), .second, .val (.long qs), .second, .val (.int vc), .val (.int vk), .val (.int nk), .val (.long q1), .second, .val (.long q2), .second, .val (.long q3), .second, .val (.ref b9), .val (.long ex2), .second] [(.long ex2)])) _
                  refine XS.lload X75.here hx rfl (hb hby at_138) rfl ?_
                  show Steps p.tables e below (T75.setTop (mkF m 140 #[.val (.long qa), .second, .val (.long qb), .second, .val (.long qd), .second, .val (.long qs), .second, .val (.int vc), .val (.int vk), .val (.int nk), .val (.long q1), .second, .val (.long q2), .second, .val (.long q3), .second, .val (.ref b9), .val (.long ex2), .second] [(.long q3), (.long ex2)])) _
                  refine XS.ladd X75.here hx rfl (hb hby at_140) rfl ?_
                  show Steps p.tables e below (T75.setTop (mkF m 141 #[.val (.long qa), .second, .val (.long qb), .second, .val (.long qd), .second, .val (.long qs), .second, .val (.int vc), .val (.int vk), .val (.int nk), .val (.long q1), .second, .val (.long q2), .second, .val (.long q3), .second, .val (.ref b9), .val (.long ex2), .second] [(.long (ex2 + q3))])) _
                  refine XS.lstore X75.here hx rfl (hb hby at_141) rfl (l' := #[.val (.long qa), .second, .val (.long qb), .second, .val (.long qd), .second, .val (.long qs), .second, .val (.int vc), .val (.int vk), .val (.int nk), .val (.long q1), .second, .val (.long q2), .second, .val (.long q3), .second, .val (.ref b9), .val (.long (ex2 + q3)), .second]) rfl ?_
                  exact kt
                exact ⟨(ex2 + q3), by rw [own_fp (x := qd.toInt) (by omega)]; have := rng64 ex2; have := rng64 q3; have : (((ex2 + q3)).toInt - (ex2.toInt + q3.toInt)) % 18446744073709551616 = 0 := c_ladd ex2 q3; have := rng64 (ex2 + q3); omega, pre83⟩
            obtain ⟨cq85, kq85, q85a, q85b, q85c⟩ := isOf hZ rfl A75
            obtain ⟨_, _, ⟨T85, L85, k85, n85⟩, -, X85, ⟨Lc85, hQ85, l85, y85, z85⟩, st85⟩ := X75.virtualBack hx (y := (⟨"com/example/foreslot/foreslot/CountsByEnd", "heldUntilAtLatest", "(J)J"⟩ : MethodName)) (z := (⟨"com/example/foreslot/foreslot/CountsByEnd", "heldUntilAtLatest", "(J)J"⟩ : MethodName)) hown (mvT hZ (hw _ (List.mem_of_getElem? (i := 14) rfl))) (mvT hZ (hw _ (List.mem_of_getElem? (i := 15) rfl))) (notFace_of_selects (args := #[]) (mvT hZ (hw _ (List.mem_of_getElem? (i := 17) rfl)))) (mvT hZ (hw _ (List.mem_of_getElem? (i := 17) rfl))) (mvT hZ (hw _ (List.mem_of_getElem? (i := 16) rfl))) (by decide) (backOf (W := 0) (rm_h2 l Z a0 hw [] b9 qs ea ca kE kC y77_0 y77_1 d77_0 d77_1 T75.heap n0 Zs76 A75 Fe75 Fc75 F2_77 V0_77 V1_77 (by omega) (by omega) (by omega) (by omega)) hZ (hw _ (List.mem_of_getElem? (i := 18) rfl)) (hw _ (List.mem_of_getElem? (i := 2) rfl)) (by decide) (by decide)) q85a q85c (g := (mkF m 147 #[.val (.long qa), .second, .val (.long qb), .second, .val (.long qd), .second, .val (.long qs), .second, .val (.int vc), .val (.int vk), .val (.int nk), .val (.long q1), .second, .val (.long q2), .second, .val (.long q3), .second, .val (.ref b9), .val (.long ex3), .second] [(.long qs), (.ref b9)])) rfl (by rw [hml]; rfl) (Steps.refl _) (argsL := [(.long qs)]) (rest := []) (lenOf pd_3 rfl) rfl (by show 2 * 0 + _ ≤ _; exact Nat.le_of_eq rfl) (hb hby at_147) (fun _ _ => ⟨rfl, rfl, (by decide : 3 + 0 ≤ _), (by decide : 35 + 0 ≤ _)⟩)
            dsimp only [Pt.U, Pt.locs, Pt.cells, Pt.slots] at X85 l85 y85 z85 st85 hQ85
            subst l85 y85 z85
            obtain ⟨hd, rfl, hhd, N85q, e85⟩ := hQ85
            have N85 := Fr.app N75 N85q
            have hc153_86 : hd.toInt = ex3.toInt := by have := hs_21 qs.toInt; have := hs_36 qs.toInt; have := hs_77 qs.toInt; omega
            obtain ⟨fs, hr, hrun, hended, hW, hsame⟩ := X85.leave (v := some (.int (1 : Int32))) (fun h => by rw [Bd.returns] at h; cases h)
            refine ⟨_, _, pre84 _ ?_, hrun, hended, _, _, rfl, ?_, ⟨_, rfl⟩, hW, hsame.mono (by decide) (by decide)⟩
            · show Steps p.tables e below (T75.setTop (mkF m 143 #[.val (.long qa), .second, .val (.long qb), .second, .val (.long qd), .second, .val (.long qs), .second, .val (.int vc), .val (.int vk), .val (.int nk), .val (.long q1), .second, .val (.long q2), .second, .val (.long q3), .second, .val (.ref b9), .val (.long ex3), .second] [])) _
              refine XS.aload X75.here hx rfl (hb hby at_143) rfl rfl ?_
              show Steps p.tables e below (T75.setTop (mkF m 145 #[.val (.long qa), .second, .val (.long qb), .second, .val (.long qd), .second, .val (.long qs), .second, .val (.int vc), .val (.int vk), .val (.int nk), .val (.long q1), .second, .val (.long q2), .second, .val (.long q3), .second, .val (.ref b9), .val (.long ex3), .second] [(.ref b9)])) _
              refine XS.lload X75.here hx rfl (hb hby at_145) rfl ?_
              show Steps p.tables e below (T75.setTop (mkF m 147 #[.val (.long qa), .second, .val (.long qb), .second, .val (.long qd), .second, .val (.long qs), .second, .val (.int vc), .val (.int vk), .val (.int nk), .val (.long q1), .second, .val (.long q2), .second, .val (.long q3), .second, .val (.ref b9), .val (.long ex3), .second] [(.long qs), (.ref b9)])) _
              refine st85.trans ?_
              show Steps p.tables e below (T85.setTop (mkF m 150 #[.val (.long qa), .second, .val (.long qb), .second, .val (.long qd), .second, .val (.long qs), .second, .val (.int vc), .val (.int vk), .val (.int nk), .val (.long q1), .second, .val (.long q2), .second, .val (.long q3), .second, .val (.ref b9), .val (.long ex3), .second] [(.long hd)])) _
              refine XS.lload X85.here hx rfl (hb hby at_150) rfl ?_
              show Steps p.tables e below (T85.setTop (mkF m 152 #[.val (.long qa), .second, .val (.long qb), .second, .val (.long qd), .second, .val (.long qs), .second, .val (.int vc), .val (.int vk), .val (.int nk), .val (.long q1), .second, .val (.long q2), .second, .val (.long q3), .second, .val (.ref b9), .val (.long ex3), .second] [(.long ex3), (.long hd)])) _
              refine XS.lcmp X85.here hx rfl (hb hby at_152) rfl ?_
              show Steps p.tables e below (T85.setTop (mkF m 153 #[.val (.long qa), .second, .val (.long qb), .second, .val (.long qd), .second, .val (.long qs), .second, .val (.int vc), .val (.int vk), .val (.int nk), .val (.long q1), .second, .val (.long q2), .second, .val (.long q3), .second, .val (.ref b9), .val (.long ex3), .second] [(.int (lcmpW hd ex3))])) _
              refine XS.ifNo X85.here hx rfl (hb hby at_153) rfl (own_if (own_teqL (x := hd) (y := ex3) rfl rfl hc153_86).2) ?_
              show Steps p.tables e below (T85.setTop (mkF m 156 #[.val (.long qa), .second, .val (.long qb), .second, .val (.long qd), .second, .val (.long qs), .second, .val (.int vc), .val (.int vk), .val (.int nk), .val (.long q1), .second, .val (.long q2), .second, .val (.long q3), .second, .val (.ref b9), .val (.long ex3), .second] [])) _
              refine XS.iconst X85.here hx rfl (hb hby at_156) ?_
              show Steps p.tables e below (T85.setTop (mkF m 157 #[.val (.long qa), .second, .val (.long qb), .second, .val (.long qd), .second, .val (.long qs), .second, .val (.int vc), .val (.int vk), .val (.int nk), .val (.long q1), .second, .val (.long q2), .second, .val (.long q3), .second, .val (.ref b9), .val (.long ex3), .second] [(.int (1 : Int32))])) _
              refine XS.goto X85.here hx rfl (pc0 := 157) (pc' := 161) rfl (hb hby at_157) (by decide) (by decide) ?_
              show Steps p.tables e below (T85.setTop (mkF m 161 #[.val (.long qa), .second, .val (.long qb), .second, .val (.long qd), .second, .val (.long qs), .second, .val (.int vc), .val (.int vk), .val (.int nk), .val (.long q1), .second, .val (.long q2), .second, .val (.long q3), .second, .val (.ref b9), .val (.long ex3), .second] [(.int (1 : Int32))])) _
              exact retN X85 hx (t := .boolean) Bd.returns (by simp) (hb hby at_161) hr
            · show Q0 Z qa qb qd qs vc vk h0 n0 _ T85.heap _
              rw [e85]
              exact ⟨rfl, N85⟩
          · have own_mark78 := True.intro
            obtain ⟨ex3, hex3, pre91⟩ : ∃ ex3 : Int64, (ex3.toInt = ex2.toInt + own_f qd.toInt qs.toInt q3.toInt ∧ 0 ≤ ex3.toInt ∧ ex3.toInt ≤ 768) ∧ ∀ t, Steps p.tables e below (T75.setTop (mkF m 143 #[.val (.long qa), .second, .val (.long qb), .second, .val (.long qd), .second, .val (.long qs), .second, .val (.int vc), .val (.int vk), .val (.int nk), .val (.long q1), .second, .val (.long q2), .second, .val (.long q3), .second, .val (.ref b9), .val (.long ex3), .second] [])) t → Steps p.tables e below (s₁.setTop (entryFrame m #[(.long qa), (.long qb), (.long qd), (.long qs), (.int vc), (.int vk)] maxLocals)) t := by
              have pre88 : ∀ t, Steps p.tables e below (T75.setTop (mkF m 133 #[.val (.long qa), .second, .val (.long qb), .second, .val (.long qd), .second, .val (.long qs), .second, .val (.int vc), .val (.int vk), .val (.int nk), .val (.long q1), .second, .val (.long q2), .second, .val (.long q3), .second, .val (.ref b9), .val (.long ex2), .second] [(.int (lcmpW qd qs))])) t → Steps p.tables e below (s₁.setTop (entryFrame m #[(.long qa), (.long qb), (.long qd), (.long qs), (.int vc), (.int vk)] maxLocals)) t := fun t kt => by
                refine pre79 _ ?_
                show Steps p.tables e below (T75.setTop (mkF m 128 #[.val (.long qa), .second, .val (.long qb), .second, .val (.long qd), .second, .val (.long qs), .second, .val (.int vc), .val (.int vk), .val (.int nk), .val (.long q1), .second, .val (.long q2), .second, .val (.long q3), .second, .val (.ref b9), .val (.long ex2), .second] [])) _
                refine XS.lload X75.here hx rfl (hb hby at_128) rfl ?_
                show Steps p.tables e below (T75.setTop (mkF m 130 #[.val (.long qa), .second, .val (.long qb), .second, .val (.long qd), .second, .val (.long qs), .second, .val (.int vc), .val (.int vk), .val (.int nk), .val (.long q1), .second, .val (.long q2), .second, .val (.long q3), .second, .val (.ref b9), .val (.long ex2), .second] [(.long qd)])) _
                refine XS.lload X75.here hx rfl (hb hby at_130) rfl ?_
                show Steps p.tables e below (T75.setTop (mkF m 132 #[.val (.long qa), .second, .val (.long qb), .second, .val (.long qd), .second, .val (.long qs), .second, .val (.int vc), .val (.int vk), .val (.int nk), .val (.long q1), .second, .val (.long q2), .second, .val (.long q3), .second, .val (.ref b9), .val (.long ex2), .second] [(.long qs), (.long qd)])) _
                refine XS.lcmp X75.here hx rfl (hb hby at_132) rfl ?_
                exact kt
              by_cases hc133_87 : qs.toInt < qd.toInt
              · have pre89 : ∀ t, Steps p.tables e below (T75.setTop (mkF m 143 #[.val (.long qa), .second, .val (.long qb), .second, .val (.long qd), .second, .val (.long qs), .second, .val (.int vc), .val (.int vk), .val (.int nk), .val (.long q1), .second, .val (.long q2), .second, .val (.long q3), .second, .val (.ref b9), .val (.long ex2), .second] [])) t → Steps p.tables e below (s₁.setTop (entryFrame m #[(.long qa), (.long qb), (.long qd), (.long qs), (.int vc), (.int vk)] maxLocals)) t := fun t kt => by
                  refine pre88 _ ?_
                  show Steps p.tables e below (T75.setTop (mkF m 133 #[.val (.long qa), .second, .val (.long qb), .second, .val (.long qd), .second, .val (.long qs), .second, .val (.int vc), .val (.int vk), .val (.int nk), .val (.long q1), .second, .val (.long q2), .second, .val (.long q3), .second, .val (.ref b9), .val (.long ex2), .second] [(.int (lcmpW qd qs))])) _
                  refine XS.ifYes X75.here hx rfl (pc0 := 133) (pc' := 143) rfl (hb hby at_133) rfl (own_if (own_tgtL (x := qd) (y := qs) rfl rfl hc133_87).1) (by decide) (by decide) ?_
                  exact kt
                exact ⟨ex2, by rw [own_fn (x := qd.toInt) (by omega)]; have := rng64 ex2; omega, pre89⟩
              · have pre90 : ∀ t, Steps p.tables e below (T75.setTop (mkF m 143 #[.val (.long qa), .second, .val (.long qb), .second, .val (.long qd), .second, .val (.long qs), .second, .val (.int vc), .val (.int vk), .val (.int nk), .val (.long q1), .second, .val (.long q2), .second, .val (.long q3), .second, .val (.ref b9), .val (.long (ex2 + q3)), .second] [])) t → Steps p.tables e below (s₁.setTop (entryFrame m #[(.long qa), (.long qb), (.long qd), (.long qs), (.int vc), (.int vk)] maxLocals)) t := fun t kt => by
                  refine pre88 _ ?_
                  show Steps p.tables e below (T75.setTop (mkF m 133 #[.val (.long qa), .second, .val (.long qb), .second, .val (.long qd), .second, .val (.long qs), .second, .val (.int vc), .val (.int vk), .val (.int nk), .val (.long q1), .second, .val (.long q2), .second, .val (.long q3), .second, .val (.ref b9), .val (.long ex2), .second] [(.int (lcmpW qd qs))])) _
                  refine XS.ifNo X75.here hx rfl (hb hby at_133) rfl (own_if (own_fgtL (x := qd) (y := qs) rfl rfl hc133_87).1) ?_
                  show Steps p.tables e below (T75.setTop (mkF m 136 #[.val (.long qa), .second, .val (.long qb), .second, .val (.long qd), .second, .val (.long qs), .second, .val (.int vc), .val (.int vk), .val (.int nk), .val (.long q1), .second, .val (.long q2), .second, .val (.long q3), .second, .val (.ref b9), .val (.long ex2), .second] [])) _
                  refine XS.lload X75.here hx rfl (hb hby at_136) rfl ?_
                  show Steps p.tables e below (T75.setTop (mkF m 138 #[.val (.long qa), .second, .val (.long qb), .second, .val (.long qd), .second, .val (.long qs), .second, .val (.int vc), .val (.int vk), .val (.int nk), .val (.long q1), .second, .val (.long q2), .second, .val (.long q3), .second, .val (.ref b9), .val (.long ex2), .second] [(.long ex2)])) _
                  refine XS.lload X75.here hx rfl (hb hby at_138) rfl ?_
                  show Steps p.tables e below (T75.setTop (mkF m 140 #[.val (.long qa), .second, .val (.long qb), .second, .val (.long qd), .second, .val (.long qs), .second, .val (.int vc), .val (.int vk), .val (.int nk), .val (.long q1), .second, .val (.long q2), .second, .val (.long q3), .second, .val (.ref b9), .val (.long ex2), .second] [(.long q3), (.long ex2)])) _
                  refine XS.ladd X75.here hx rfl (hb hby at_140) rfl ?_
                  show Steps p.tables e below (T75.setTop (mkF m 141 #[.val (.long qa), .second, .val (.long qb), .second, .val (.long qd), .second, .val (.long qs), .second, .val (.int vc), .val (.int vk), .val (.int nk), .val (.long q1), .second, .val (.long q2), .second, .val (.long q3), .second, .val (.ref b9), .val (.long ex2), .second] [(.long (ex2 + q3))])) _
                  refine XS.lstore X75.here hx rfl (hb hby at_141) rfl (l' := #[.val (.long qa), .second, .val (.long qb), .second, .val (.long qd), .second, .val (.long qs), .second, .val (.int vc), .val (.int vk), .val (.int nk), .val (.long q1), .second, .val (.long q2), .second, .val (.long q3), .second, .val (.ref b9), .val (.long (ex2 + q3)), .second]) rfl ?_
                  exact kt
                exact ⟨(ex2 + q3), by rw [own_fp (x := qd.toInt) (by omega)]; have := rng64 ex2; have := rng64 q3; have : (((ex2 + q3)).toInt - (ex2.toInt + q3.toInt)) % 18446744073709551616 = 0 := c_ladd ex2 q3; have := rng64 (ex2 + q3); omega, pre90⟩
            obtain ⟨cq92, kq92, q92a, q92b, q92c⟩ := isOf hZ rfl A75
            obtain ⟨_, _, ⟨T92, L92, k92, n92⟩, -, X92, ⟨Lc92, hQ92, l92, y92, z92⟩, st92⟩ := X75.virtualBack hx (y := (⟨"com/example/foreslot/foreslot/CountsByEnd", "heldUntilAtLatest", "(J)J"⟩ : MethodName)) (z := (⟨"com/example/foreslot/foreslot/CountsByEnd", "heldUntilAtLatest", "(J)J"⟩ : MethodName)) hown (mvT hZ (hw _ (List.mem_of_getElem? (i := 14) rfl))) (mvT hZ (hw _ (List.mem_of_getElem? (i := 15) rfl))) (notFace_of_selects (args := #[]) (mvT hZ (hw _ (List.mem_of_getElem? (i := 17) rfl)))) (mvT hZ (hw _ (List.mem_of_getElem? (i := 17) rfl))) (mvT hZ (hw _ (List.mem_of_getElem? (i := 16) rfl))) (by decide) (backOf (W := 0) (rm_h3 l Z a0 hw [] b9 qs ea ca kE kC y78_0 y78_1 y78_2 d78_0 d78_1 d78_2 T75.heap n0 Zs76 A75 Fe75 Fc75 F2_78 V0_78 V1_78 (by omega) (by omega) (by omega) (by omega) (by omega) (by omega)) hZ (hw _ (List.mem_of_getElem? (i := 18) rfl)) (hw _ (List.mem_of_getElem? (i := 2) rfl)) (by decide) (by decide)) q92a q92c (g := (mkF m 147 #[.val (.long qa), .second, .val (.long qb), .second, .val (.long qd), .second, .val (.long qs), .second, .val (.int vc), .val (.int vk), .val (.int nk), .val (.long q1), .second, .val (.long q2), .second, .val (.long q3), .second, .val (.ref b9), .val (.long ex3), .second] [(.long qs), (.ref b9)])) rfl (by rw [hml]; rfl) (Steps.refl _) (argsL := [(.long qs)]) (rest := []) (lenOf pd_3 rfl) rfl (by show 2 * 0 + _ ≤ _; exact Nat.le_of_eq rfl) (hb hby at_147) (fun _ _ => ⟨rfl, rfl, (by decide : 3 + 0 ≤ _), (by decide : 35 + 0 ≤ _)⟩)
            dsimp only [Pt.U, Pt.locs, Pt.cells, Pt.slots] at X92 l92 y92 z92 st92 hQ92
            subst l92 y92 z92
            obtain ⟨hd, rfl, hhd, N92q, e92⟩ := hQ92
            have N92 := Fr.app N75 N92q
            have hc153_93 : hd.toInt = ex3.toInt := by have := hs_21 qs.toInt; have := hs_36 qs.toInt; have := hs_78 qs.toInt; omega
            obtain ⟨fs, hr, hrun, hended, hW, hsame⟩ := X92.leave (v := some (.int (1 : Int32))) (fun h => by rw [Bd.returns] at h; cases h)
            refine ⟨_, _, pre91 _ ?_, hrun, hended, _, _, rfl, ?_, ⟨_, rfl⟩, hW, hsame.mono (by decide) (by decide)⟩
            · show Steps p.tables e below (T75.setTop (mkF m 143 #[.val (.long qa), .second, .val (.long qb), .second, .val (.long qd), .second, .val (.long qs), .second, .val (.int vc), .val (.int vk), .val (.int nk), .val (.long q1), .second, .val (.long q2), .second, .val (.long q3), .second, .val (.ref b9), .val (.long ex3), .second] [])) _
              refine XS.aload X75.here hx rfl (hb hby at_143) rfl rfl ?_
              show Steps p.tables e below (T75.setTop (mkF m 145 #[.val (.long qa), .second, .val (.long qb), .second, .val (.long qd), .second, .val (.long qs), .second, .val (.int vc), .val (.int vk), .val (.int nk), .val (.long q1), .second, .val (.long q2), .second, .val (.long q3), .second, .val (.ref b9), .val (.long ex3), .second] [(.ref b9)])) _
              refine XS.lload X75.here hx rfl (hb hby at_145) rfl ?_
              show Steps p.tables e below (T75.setTop (mkF m 147 #[.val (.long qa), .second, .val (.long qb), .second, .val (.long qd), .second, .val (.long qs), .second, .val (.int vc), .val (.int vk), .val (.int nk), .val (.long q1), .second, .val (.long q2), .second, .val (.long q3), .second, .val (.ref b9), .val (.long ex3), .second] [(.long qs), (.ref b9)])) _
              refine st92.trans ?_
              show Steps p.tables e below (T92.setTop (mkF m 150 #[.val (.long qa), .second, .val (.long qb), .second, .val (.long qd), .second, .val (.long qs), .second, .val (.int vc), .val (.int vk), .val (.int nk), .val (.long q1), .second, .val (.long q2), .second, .val (.long q3), .second, .val (.ref b9), .val (.long ex3), .second] [(.long hd)])) _
              refine XS.lload X92.here hx rfl (hb hby at_150) rfl ?_
              show Steps p.tables e below (T92.setTop (mkF m 152 #[.val (.long qa), .second, .val (.long qb), .second, .val (.long qd), .second, .val (.long qs), .second, .val (.int vc), .val (.int vk), .val (.int nk), .val (.long q1), .second, .val (.long q2), .second, .val (.long q3), .second, .val (.ref b9), .val (.long ex3), .second] [(.long ex3), (.long hd)])) _
              refine XS.lcmp X92.here hx rfl (hb hby at_152) rfl ?_
              show Steps p.tables e below (T92.setTop (mkF m 153 #[.val (.long qa), .second, .val (.long qb), .second, .val (.long qd), .second, .val (.long qs), .second, .val (.int vc), .val (.int vk), .val (.int nk), .val (.long q1), .second, .val (.long q2), .second, .val (.long q3), .second, .val (.ref b9), .val (.long ex3), .second] [(.int (lcmpW hd ex3))])) _
              refine XS.ifNo X92.here hx rfl (hb hby at_153) rfl (own_if (own_teqL (x := hd) (y := ex3) rfl rfl hc153_93).2) ?_
              show Steps p.tables e below (T92.setTop (mkF m 156 #[.val (.long qa), .second, .val (.long qb), .second, .val (.long qd), .second, .val (.long qs), .second, .val (.int vc), .val (.int vk), .val (.int nk), .val (.long q1), .second, .val (.long q2), .second, .val (.long q3), .second, .val (.ref b9), .val (.long ex3), .second] [])) _
              refine XS.iconst X92.here hx rfl (hb hby at_156) ?_
              show Steps p.tables e below (T92.setTop (mkF m 157 #[.val (.long qa), .second, .val (.long qb), .second, .val (.long qd), .second, .val (.long qs), .second, .val (.int vc), .val (.int vk), .val (.int nk), .val (.long q1), .second, .val (.long q2), .second, .val (.long q3), .second, .val (.ref b9), .val (.long ex3), .second] [(.int (1 : Int32))])) _
              refine XS.goto X92.here hx rfl (pc0 := 157) (pc' := 161) rfl (hb hby at_157) (by decide) (by decide) ?_
              show Steps p.tables e below (T92.setTop (mkF m 161 #[.val (.long qa), .second, .val (.long qb), .second, .val (.long qd), .second, .val (.long qs), .second, .val (.int vc), .val (.int vk), .val (.int nk), .val (.long q1), .second, .val (.long q2), .second, .val (.long q3), .second, .val (.ref b9), .val (.long ex3), .second] [(.int (1 : Int32))])) _
              exact retN X92 hx (t := .boolean) Bd.returns (by simp) (hb hby at_161) hr
            · show Q0 Z qa qb qd qs vc vk h0 n0 _ T92.heap _
              rw [e92]
              exact ⟨rfl, N92⟩
set_option maxRecDepth 65536 in
set_option maxHeartbeats 40000000 in
theorem comes_1 {Post : Tables → Env → Array Value → State → Outcome → State → Prop} (hpost : ∀ tb e args s v u, (limb_1_1.after args s (.returned v) u = true ∧ limb_1_2.after args s (.returned v) u = true ∧ True) → FrameEnd s (.returned v) u (Jvm.fieldLocs frame_1_writes args s ++ Jvm.arrayLocs frame_1_arrays args s ++ Jvm.staticLocs frame_1_statics s) 16 192 → Post tb e args s (.returned v) u) :
    ArmFor flags0 classFile x code maxLocals ret World_1 tables_1 room_1 Calls_1 rest_1 Pre_1 Post := by
  intro l hfl _ _ p e ha hc hk s m args below hf hA hF happ hP
  obtain ⟨hcalls, hrest, hpre⟩ := hP
  obtain ⟨-, -, -, hnamed, -, -, -, hat⟩ := (Spec.applies_iff hf).mp happ
  obtain ⟨hg, hn⟩ := and_e (Cond.before_iff.mp (show (Jvm.Cond.and given_1 narrow_1).before args s = true from hpre))
  obtain ⟨g0, gr0⟩ := and_e hg
  obtain ⟨ga0, gr1⟩ := and_e gr0
  obtain ⟨ga1, gr2⟩ := and_e gr1
  obtain ⟨ga2, gr3⟩ := and_e gr2
  obtain ⟨ga3, gr4⟩ := and_e gr3
  obtain ⟨ga4, gr5⟩ := and_e gr4
  obtain ⟨w0, w1, w2, w3, w4, w5, rfl⟩ : ∃ w0 w1 w2 w3 w4 w5 : Value, args = #[w0, w1, w2, w3, w4, w5] := by
    have hs : args.size = 6 := by simpa [Cond.value, given_1] using g0
    obtain ⟨L⟩ := args
    match L, hs with
    | [w0, w1, w2, w3, w4, w5], _ => exact ⟨w0, w1, w2, w3, w4, w5, rfl⟩
  have hw := fun d (hd : d ∈ tables_1) => atoms_spec (ws := Jvm.Cond.code x code maxLocals ret :: tables_1) hat d (List.mem_cons_of_mem _ hd)
  have hfit : Fit s := fun {y c} hc i hi => by
    obtain ⟨ha, rfl⟩ := Array.getElem?_eq_some_iff.mp hc
    have q := List.all_eq_true.mp ((Array.all_eq_true_iff_forall_mem.mp hF) _ (Array.getElem_mem ha)) i (List.mem_range.mpr hi)
    simpa [Array.getElem?_eq_getElem hi] using q
  obtain ⟨i0, ei0⟩ := isL_v ga0
  obtain rfl : w0 = (.long i0) := Option.some.inj ei0
  obtain ⟨i1, ei1⟩ := isL_v ga1
  obtain rfl : w1 = (.long i1) := Option.some.inj ei1
  obtain ⟨i2, ei2⟩ := isL_v ga2
  obtain rfl : w2 = (.long i2) := Option.some.inj ei2
  obtain ⟨i3, ei3⟩ := isL_v ga3
  obtain rfl : w3 = (.long i3) := Option.some.inj ei3
  obtain ⟨i4, ei4⟩ := is_v ga4
  obtain rfl : w4 = (.int i4) := Option.some.inj ei4
  obtain ⟨i5, ei5⟩ := is_v gr5
  obtain rfl : w5 = (.int i5) := Option.some.inj ei5
  obtain ⟨n, o, h1, h2, h3, v0, L, rfl, hQ, hq⟩ := rm0 l s _ hw tables_1 i0 i1 i2 i3 i4 i5 s.heap s.heap.size (Nat.le_refl _)  p e ha hc hk s m _ below hf ((Spec.applies_iff_loose hf).mp happ).1 ⟨rfl, State.Warmed39.refl s, rfl⟩ trivial
  obtain ⟨rfl, N⟩ : v0 = some (.int (1 : Int32)) ∧ Fr s.heap.size L := hQ
  refine ⟨n, _, h1, h2, h3, hpost _ _ _ _ _ _ ⟨Cond.after_iff.mpr rfl, Cond.after_iff.mpr (eq_i res_at (Term.int_eval (1)) rfl), trivial⟩ ⟨hq.1, hq.2.1, (hq.2.2.sift fun y hy => Or.inr (N y hy)).mono (by decide) (by decide)⟩⟩
theorem main_1_1 : Claimed_1_1 := comes_1 fun _ _ _ _ _ _ h hF => ⟨h.1, hF⟩
theorem main_1_2 : Claimed_1_2 := comes_1 fun _ _ _ _ _ _ h hF => ⟨h.2.1, hF⟩
end Jvm.Pilot.@@N@@
namespace Jvm.Pilot.@@N@@
open Jvm Jvm.ClassFile Sem Op Lib Jvm.Free Jvm.Stand Jvm.Pilot.@@N@@.Jvm.D
/-! MADE BY PROGRAM (witnessworld.py) out of the Statement's table words and the real class files: 13 classes; the members and pool entries that the words name. The judged class is class 1, her method 1. -/
namespace start1
open Jvm.ClassFile
def u (s : String) : CpInfo := .utf8 (stringToUtf16 s)
/-- a pool by its gaps: so many unusable entries, then the entry; so many at the end -/
def gap : Nat → List CpInfo → List CpInfo
  | 0, r => r
  | n + 1, r => .unusable :: gap n r
def poolList (es : List (Nat × CpInfo)) (last : Nat) : List CpInfo := es.foldr (fun e r => gap e.1 (e.2 :: r)) (gap last [])
def pool (es : List (Nat × CpInfo)) (last : Nat) : Array CpInfo := ⟨poolList es last⟩
def fileOf (pool : Array CpInfo) (this : Nat) (attrs : Array Attribute := #[]) (ms : Array MethodInfo := #[]) (fl : Nat := 33) (sup : Nat := 0) (ifs : Array Nat := #[]) (fds : Array FieldInfo := #[]) : ClassFile where
  minorVersion := 0
  majorVersion := 65
  constantPool := pool
  accessFlags := fl
  thisClass := this
  superClass := sup
  interfaces := ifs
  fields := fds
  methods := ms
  attributes := attrs
def plain (name : String) (sup : Option ClassId) : Class where
  name := name
  kind := .ordinary
  loader := none
  accessFlags := 33
  super := sup
  interfaces := #[]
  cf := none
  fields := #[]
  methods := #[]
  instanceTypes := #[]
  staticTypes := #[]
  resolved := #[]
  callSites := []
  init := .initialized
  statics := none
  mirror := none

def pool0 : Array CpInfo := pool [(5, u "<init>"), (0, u "()V"), (1, .class_ 10), (1, u "java/lang/Object")] 113

def k0c0 : Code := { maxStack := 0, maxLocals := 1, code := object_method_1_code, exceptionTable := #[], attributes := #[] }
def k0m0 : Method := { name := "<init>", desc := "()V", sig := { parameters := [], returnType := none }, accessFlags := 1, code := some k0c0 }
/-- java/lang/Object -/
def k0 : Class := { plain "java/lang/Object" none with
  accessFlags := 33
  interfaces := #[]
  cf := some (fileOf pool0 8 #[] #[{ accessFlags := 1, nameIndex := 5, descriptorIndex := 6, attributes := #[] }] 33 0 #[] #[])
  fields := #[]
  methods := #[k0m0]
  instanceTypes := #[]
  staticTypes := #[]
  resolved := Array.replicate 124 none
  statics := none }

def pool1 : Array CpInfo := pool [(2, .class_ 4), (0, .nameAndType 5 6), (0, u "java/lang/Object"), (0, u "<init>"), (0, u "()V"), (0, .class_ 8), (0, u "com/example/foreslot/foreslot/CountsByEnd"), (0, .methodref 7 3), (0, .methodref 7 11), (0, .nameAndType 12 13), (0, u "add"), (0, u "(JJ)V"), (0, .methodref 7 15), (0, .nameAndType 16 17), (0, u "heldUntilAtLatest"), (0, u "(J)J"), (0, .class_ 19), (0, u "com/example/foreslot/foreslot/CountsByEndHeldUntilAtLatestPinLaw"), (2, u "law"), (0, u "(JJJJII)Z")] 3

def k1m0 : Method := { name := "<init>", desc := "()V", sig := { parameters := [], returnType := none }, accessFlags := 1, code := none }
def k1c1 : Code := { maxStack := 5, maxLocals := 20, code := code, exceptionTable := #[], attributes := #[] }
def k1m1 : Method := { name := "law", desc := "(JJJJII)Z", sig := { parameters := [.long, .long, .long, .long, .int, .int], returnType := some .boolean }, accessFlags := 9, code := some k1c1 }
/-- com/example/foreslot/foreslot/CountsByEndHeldUntilAtLatestPinLaw -/
def k1 : Class := { plain "com/example/foreslot/foreslot/CountsByEndHeldUntilAtLatestPinLaw" (some 0) with
  accessFlags := 49
  interfaces := #[]
  cf := some (fileOf pool1 18 #[] #[{ accessFlags := 1, nameIndex := 5, descriptorIndex := 6, attributes := #[] }, { accessFlags := 9, nameIndex := 22, descriptorIndex := 23, attributes := #[] }] 49 2 #[] #[])
  fields := #[]
  methods := #[k1m0, k1m1]
  instanceTypes := #[]
  staticTypes := #[]
  resolved := Array.replicate 27 none
  statics := none }

def pool2 : Array CpInfo := pool [(1, .methodref 2 3), (0, .class_ 4), (0, .nameAndType 5 6), (0, u "java/lang/Object"), (0, u "<init>"), (0, u "()V"), (0, .class_ 8), (0, u "com/example/foreslot/foreslot/CountsByEnd"), (0, .fieldref 7 10), (0, .nameAndType 11 12), (0, u "ends"), (0, u "[J"), (0, .fieldref 7 14), (0, .nameAndType 15 12), (0, u "counts"), (0, .fieldref 7 17), (0, .nameAndType 18 19), (0, u "size"), (0, u "I"), (0, .methodref 21 22), (0, .class_ 23), (0, .nameAndType 24 25), (0, u "java/util/Arrays"), (0, u "binarySearch"), (0, u "([JIIJ)I"), (4, .methodref 31 32), (0, .class_ 33), (0, .nameAndType 34 35), (0, u "java/lang/System"), (0, u "arraycopy"), (0, u "(Ljava/lang/Object;ILjava/lang/Object;II)V"), (9, u "FIRST_CAPACITY"), (4, u "add"), (0, u "(JJ)V"), (2, u "heldUntilAtLatest"), (0, u "(J)J")] 23

def k2c0 : Code := { maxStack := 2, maxLocals := 1, code := prog_20_method_1_code, exceptionTable := #[], attributes := #[] }
def k2m0 : Method := { name := "<init>", desc := "()V", sig := { parameters := [], returnType := none }, accessFlags := 0, code := some k2c0 }
def k2c1 : Code := { maxStack := 6, maxLocals := 6, code := prog_20_method_2_code, exceptionTable := #[], attributes := #[] }
def k2m1 : Method := { name := "add", desc := "(JJ)V", sig := { parameters := [.long, .long], returnType := none }, accessFlags := 0, code := some k2c1 }
def k2c2 : Code := { maxStack := 4, maxLocals := 6, code := prog_20_method_4_code, exceptionTable := #[], attributes := #[] }
def k2m2 : Method := { name := "heldUntilAtLatest", desc := "(J)J", sig := { parameters := [.long], returnType := some .long }, accessFlags := 0, code := some k2c2 }
/-- com/example/foreslot/foreslot/CountsByEnd -/
def k2 : Class := { plain "com/example/foreslot/foreslot/CountsByEnd" (some 0) with
  accessFlags := 48
  interfaces := #[]
  cf := some (fileOf pool2 7 #[] #[{ accessFlags := 0, nameIndex := 5, descriptorIndex := 6, attributes := #[] }, { accessFlags := 0, nameIndex := 50, descriptorIndex := 51, attributes := #[] }, { accessFlags := 0, nameIndex := 54, descriptorIndex := 55, attributes := #[] }] 48 2 #[] #[{ accessFlags := 26, nameIndex := 45, descriptorIndex := 19, attributes := #[] }, { accessFlags := 2, nameIndex := 11, descriptorIndex := 12, attributes := #[] }, { accessFlags := 2, nameIndex := 15, descriptorIndex := 12, attributes := #[] }, { accessFlags := 2, nameIndex := 18, descriptorIndex := 19, attributes := #[] }])
  fields := #[{ name := "FIRST_CAPACITY", type := .int, accessFlags := 26, slot := 0, constantValue := 0 }, { name := "ends", type := (.array .long), accessFlags := 2, slot := 0, constantValue := 0 }, { name := "counts", type := (.array .long), accessFlags := 2, slot := 1, constantValue := 0 }, { name := "size", type := .int, accessFlags := 2, slot := 2, constantValue := 0 }]
  methods := #[k2m0, k2m1, k2m2]
  instanceTypes := #[(.array .long), (.array .long), .int]
  staticTypes := #[.int]
  resolved := Array.replicate 79 none
  statics := none }

def pool3 : Array CpInfo := pool [(2, .class_ 4), (1, u "java/lang/Object"), (0, u "<init>"), (0, u "()V"), (6, .methodref 14 15), (0, .class_ 16), (0, .nameAndType 17 18), (0, u "java/util/Arrays"), (0, u "rangeCheck"), (0, u "(III)V"), (55, .class_ 76), (1, u "java/util/Arrays$NaturalOrder"), (36, .class_ 115), (1, u "java/util/Arrays$LegacyMergeSort"), (1, u "Z"), (87, .methodref 14 206), (0, .nameAndType 207 208), (0, u "binarySearch0"), (0, u "([JIIJ)I"), (166, .class_ 376), (0, u "java/util/Arrays$ArrayList"), (68, u "$assertionsDisabled"), (269, u "MIN_ARRAY_SORT_GRAN"), (0, u "I"), (2, u "INSERTIONSORT_THRESHOLD"), (74, u "binarySearch"), (180, .class_ 976), (0, u "java/util/Arrays$ArrayItr")] 52

def k3m0 : Method := { name := "<init>", desc := "()V", sig := { parameters := [], returnType := none }, accessFlags := 2, code := none }
def k3c1 : Code := { maxStack := 4, maxLocals := 3, code := jdk_65_method_30_code, exceptionTable := #[], attributes := #[] }
def k3m1 : Method := { name := "rangeCheck", desc := "(III)V", sig := { parameters := [.int, .int, .int], returnType := none }, accessFlags := 8, code := some k3c1 }
def k3c2 : Code := { maxStack := 5, maxLocals := 5, code := jdk_65_method_55_code, exceptionTable := #[], attributes := #[] }
def k3m2 : Method := { name := "binarySearch", desc := "([JIIJ)I", sig := { parameters := [(.array .long), .int, .int, .long], returnType := some .int }, accessFlags := 9, code := some k3c2 }
def k3c3 : Code := { maxStack := 4, maxLocals := 10, code := jdk_65_method_56_code, exceptionTable := #[], attributes := #[] }
def k3m3 : Method := { name := "binarySearch0", desc := "([JIIJ)I", sig := { parameters := [(.array .long), .int, .int, .long], returnType := some .int }, accessFlags := 10, code := some k3c3 }
/-- java/util/Arrays -/
def k3 : Class := { plain "java/util/Arrays" (some 0) with
  accessFlags := 49
  interfaces := #[]
  cf := some (fileOf pool3 14 #[.nestMembers #[975, 375, 113, 74]] #[{ accessFlags := 2, nameIndex := 5, descriptorIndex := 6, attributes := #[] }, { accessFlags := 8, nameIndex := 17, descriptorIndex := 18, attributes := #[] }, { accessFlags := 9, nameIndex := 794, descriptorIndex := 208, attributes := #[] }, { accessFlags := 10, nameIndex := 207, descriptorIndex := 208, attributes := #[] }] 49 2 #[] #[{ accessFlags := 26, nameIndex := 715, descriptorIndex := 716, attributes := #[] }, { accessFlags := 26, nameIndex := 719, descriptorIndex := 716, attributes := #[] }, { accessFlags := 4120, nameIndex := 445, descriptorIndex := 117, attributes := #[] }])
  fields := #[{ name := "MIN_ARRAY_SORT_GRAN", type := .int, accessFlags := 26, slot := 0, constantValue := 0 }, { name := "INSERTIONSORT_THRESHOLD", type := .int, accessFlags := 26, slot := 1, constantValue := 0 }, { name := "$assertionsDisabled", type := .boolean, accessFlags := 4120, slot := 2, constantValue := 0 }]
  methods := #[k3m0, k3m1, k3m2, k3m3]
  instanceTypes := #[]
  staticTypes := #[.int, .int, .boolean]
  resolved := Array.replicate 1029 none
  statics := none }

def pool4 : Array CpInfo := pool [(2, .class_ 4), (1, u "java/lang/Object"), (0, u "<init>"), (0, u "()V"), (1, .class_ 10), (1, u "java/lang/System"), (0, u "allowSecurityManager"), (0, u "I"), (16, u "cons"), (0, u "Ljava/io/Console;"), (77, .class_ 110), (1, u "java/lang/System$CallersHolder"), (43, u "initialErrStream"), (0, u "Ljava/io/PrintStream;"), (19, u "security"), (0, u "Ljava/lang/SecurityManager;"), (31, .class_ 209), (0, u "java/lang/System$1"), (7, u "props"), (0, u "Ljava/util/Properties;"), (2, u "lineSeparator"), (0, u "Ljava/lang/String;"), (96, .class_ 321), (1, u "java/lang/System$LoggerFinder"), (5, .class_ 328), (0, u "java/lang/System$Logger"), (67, u "err"), (2, u "out"), (91, u "notSupportedJnuEncoding"), (15, u "in"), (17, u "initialIn"), (0, u "Ljava/io/InputStream;"), (35, u "bootLayer"), (0, u "Ljava/lang/ModuleLayer;"), (99, .class_ 664), (0, u "java/lang/System$2"), (9, u "NEVER"), (2, u "MAYBE"), (49, u "arraycopy"), (0, u "(Ljava/lang/Object;ILjava/lang/Object;II)V"), (72, .class_ 802), (0, u "java/lang/System$Logger$Level")] 31

def k4m0 : Method := { name := "<init>", desc := "()V", sig := { parameters := [], returnType := none }, accessFlags := 2, code := none }
def k4m1 : Method := { name := "arraycopy", desc := "(Ljava/lang/Object;ILjava/lang/Object;II)V", sig := { parameters := [(.object "java/lang/Object"), .int, (.object "java/lang/Object"), .int, .int], returnType := none }, accessFlags := 265, code := none }
/-- java/lang/System -/
def k4 : Class := { plain "java/lang/System" (some 0) with
  accessFlags := 49
  interfaces := #[]
  cf := some (fileOf pool4 8 #[.nestMembers #[319, 327, 801, 108, 663, 208]] #[{ accessFlags := 2, nameIndex := 5, descriptorIndex := 6, attributes := #[] }, { accessFlags := 265, nameIndex := 727, descriptorIndex := 728, attributes := #[] }] 49 2 #[] #[{ accessFlags := 25, nameIndex := 507, descriptorIndex := 526, attributes := #[] }, { accessFlags := 25, nameIndex := 399, descriptorIndex := 155, attributes := #[] }, { accessFlags := 25, nameIndex := 396, descriptorIndex := 155, attributes := #[] }, { accessFlags := 10, nameIndex := 525, descriptorIndex := 526, attributes := #[] }, { accessFlags := 26, nameIndex := 674, descriptorIndex := 12, attributes := #[] }, { accessFlags := 26, nameIndex := 677, descriptorIndex := 12, attributes := #[] }, { accessFlags := 10, nameIndex := 11, descriptorIndex := 12, attributes := #[] }, { accessFlags := 74, nameIndex := 175, descriptorIndex := 176, attributes := #[] }, { accessFlags := 10, nameIndex := 491, descriptorIndex := 222, attributes := #[] }, { accessFlags := 74, nameIndex := 29, descriptorIndex := 30, attributes := #[] }, { accessFlags := 74, nameIndex := 154, descriptorIndex := 155, attributes := #[] }, { accessFlags := 10, nameIndex := 217, descriptorIndex := 218, attributes := #[] }, { accessFlags := 10, nameIndex := 221, descriptorIndex := 222, attributes := #[] }, { accessFlags := 8, nameIndex := 562, descriptorIndex := 563, attributes := #[] }])
  fields := #[{ name := "in", type := (.object "java/io/InputStream"), accessFlags := 25, slot := 0, constantValue := 0 }, { name := "out", type := (.object "java/io/PrintStream"), accessFlags := 25, slot := 1, constantValue := 0 }, { name := "err", type := (.object "java/io/PrintStream"), accessFlags := 25, slot := 2, constantValue := 0 }, { name := "initialIn", type := (.object "java/io/InputStream"), accessFlags := 10, slot := 3, constantValue := 0 }, { name := "NEVER", type := .int, accessFlags := 26, slot := 4, constantValue := 0 }, { name := "MAYBE", type := .int, accessFlags := 26, slot := 5, constantValue := 0 }, { name := "allowSecurityManager", type := .int, accessFlags := 10, slot := 6, constantValue := 0 }, { name := "security", type := (.object "java/lang/SecurityManager"), accessFlags := 74, slot := 7, constantValue := 0 }, { name := "notSupportedJnuEncoding", type := (.object "java/lang/String"), accessFlags := 10, slot := 8, constantValue := 0 }, { name := "cons", type := (.object "java/io/Console"), accessFlags := 74, slot := 9, constantValue := 0 }, { name := "initialErrStream", type := (.object "java/io/PrintStream"), accessFlags := 74, slot := 10, constantValue := 0 }, { name := "props", type := (.object "java/util/Properties"), accessFlags := 10, slot := 11, constantValue := 0 }, { name := "lineSeparator", type := (.object "java/lang/String"), accessFlags := 10, slot := 12, constantValue := 0 }, { name := "bootLayer", type := (.object "java/lang/ModuleLayer"), accessFlags := 8, slot := 13, constantValue := 0 }]
  methods := #[k4m0, k4m1]
  instanceTypes := #[]
  staticTypes := #[(.object "java/io/InputStream"), (.object "java/io/PrintStream"), (.object "java/io/PrintStream"), (.object "java/io/InputStream"), .int, .int, .int, (.object "java/lang/SecurityManager"), (.object "java/lang/String"), (.object "java/io/Console"), (.object "java/io/PrintStream"), (.object "java/util/Properties"), (.object "java/lang/String"), (.object "java/lang/ModuleLayer")]
  resolved := Array.replicate 834 none
  statics := none }

def pool5 : Array CpInfo := pool [(1, u "java/lang/Cloneable"), (0, .class_ 1), (0, u "java/lang/Object"), (0, .class_ 3)] 3

/-- java/lang/Cloneable -/
def k5 : Class := { plain "java/lang/Cloneable" (some 0) with
  accessFlags := 1537
  interfaces := #[]
  cf := some (fileOf pool5 2 #[] #[] 1537 4 #[] #[])
  fields := #[]
  methods := #[]
  instanceTypes := #[]
  staticTypes := #[]
  resolved := Array.replicate 8 none
  statics := none }

def pool6 : Array CpInfo := pool [(1, u "java/io/Serializable"), (0, .class_ 1), (0, u "java/lang/Object"), (0, .class_ 3)] 3

/-- java/io/Serializable -/
def k6 : Class := { plain "java/io/Serializable" (some 0) with
  accessFlags := 1537
  interfaces := #[]
  cf := some (fileOf pool6 2 #[] #[] 1537 4 #[] #[])
  fields := #[]
  methods := #[]
  instanceTypes := #[]
  staticTypes := #[]
  resolved := Array.replicate 8 none
  statics := none }

/-- the primitive byte -/
def k7 : Class := { plain "byte" none with kind := .primitive 'B', accessFlags := 0x411 }
/-- [B -/
def k8 : Class := { plain "[B" (some 0) with kind := .array 7 .byte, interfaces := #[5, 6], accessFlags := 1041 }

/-- the primitive int -/
def k9 : Class := { plain "int" none with kind := .primitive 'I', accessFlags := 0x411 }
/-- [I -/
def k10 : Class := { plain "[I" (some 0) with kind := .array 9 .int, interfaces := #[5, 6], accessFlags := 1041 }

/-- the primitive long -/
def k11 : Class := { plain "long" none with kind := .primitive 'J', accessFlags := 0x411 }
/-- [J -/
def k12 : Class := { plain "[J" (some 0) with kind := .array 11 .long, interfaces := #[5, 6], accessFlags := 1041 }

def heap : Heap := #[]
def classes : Array Class := #[k0, k1, k2, k3, k4, k5, k6, k7, k8, k9, k10, k11, k12]
def interned : List (Array UInt16 × Addr) := []
def slotsUsed : Nat := 0
def theMethod : MethodId := ⟨1, 1⟩
def args0 : Array Value := #[.long 5, .long 6, .long 0, .long 7, .int 8, .int 3]
def aboutOver (below : List Frame) : State where
  vm := { classes := classes, interned := interned.toArray }
  heap := heap
  slotsUsed := slotsUsed
  threads := #[{ frames := .invoking theMethod args0 :: below }]
def below0 : List Frame := [.native { method := ⟨0, 0⟩, args := #[] }]
def about1 : State := aboutOver below0
def p0 : Program := .bare "" "" ""
def e0 : Env := launch0.env 0 0 0
theorem w_frames : about1.frames = Frame.invoking theMethod args0 :: below0 := rfl
set_option maxRecDepth 65536 in
theorem w_args : argsFit about1.vm theMethod args0 = true := by decide +kernel
set_option maxRecDepth 65536 in
theorem w_heap : heapFits about1 = true := by decide +kernel
set_option maxRecDepth 65536 in
theorem w_runnable : about1.curStatus? = some .runnable := by decide +kernel
set_option maxRecDepth 65536 in
theorem w_alone : about1.alone = true := by decide +kernel
set_option maxRecDepth 65536 in
theorem w_named : about1.methodNamed? x = some theMethod := by decide +kernel
set_option maxRecDepth 65536 in
theorem w_hears : about1.hears theMethod below0 = true := by decide +kernel
set_option maxRecDepth 65536 in
theorem w_ripe : about1.ripe theMethod args0 below0 = true := by decide +kernel
theorem w_running : about1.status = .running := rfl
set_option maxRecDepth 65536 in
theorem w_room : about1.hasRoom e0.platform room_1 = true :=
  launch0.hasRoom_least _ room_1 (by decide +kernel) (by decide +kernel) (by decide +kernel) (by decide +kernel) (by decide +kernel) (by decide +kernel)
theorem allAtoms_all (ts : List Jvm.Cond) (a : Array Jvm.Value) (st : Jvm.State) : (allAtoms ts).before a st = ts.all (fun c => c.before a st) := by
  induction ts with
  | nil => rfl
  | cons c t ih =>
    show (Jvm.Cond.and c (allAtoms t)).before a st = _
    rw [Jvm.Cond.before_and, ih, List.all_cons]
def words1 : List Jvm.Cond := Jvm.Cond.code x code maxLocals ret :: tables_1
/-- a 'code' word, met by the world's own term for the bytes: nothing is compared byte by byte -/
theorem code_word {y : MethodName} {bytes : ByteArray} {mx : Nat} {rt : Option FieldType} {a : Array Value} {s : State} {m : MethodId} {meth : Method} {c : Code} (h1 : s.methodNamed? y = some m) (h2 : s.vm.method? m = some meth) (h3 : meth.code = some c) (h4 : c.code = bytes)
    (h5 : (c.maxLocals == mx && c.exceptionTable.isEmpty && decide (c.maxStack ≤ mostOperands) && decide (meth.sig.returnType = rt) && !meth.locks && decide (parseMethodDescriptor y.desc = some meth.sig)) = true) : (Jvm.Cond.code y bytes mx rt).before a s = true := by
  simp only [Bool.and_eq_true, beq_iff_eq, Bool.not_eq_true', decide_eq_true_eq] at h5
  obtain ⟨⟨⟨⟨⟨g1, g2⟩, g3⟩, g4⟩, g5⟩, g6⟩ := h5
  simp [Cond.before, Cond.holds, Cond.value, h1, h2, h3, h4, g1, g2, g3, g4, g5, g6]
def isCode : Jvm.Cond → Bool
  | .code _ _ _ _ => true
  | _ => false
theorem all_split {L : List Jvm.Cond} {P : Jvm.Cond → Bool} (h1 : L.all (fun c => isCode c || P c) = true) (h2 : ∀ c ∈ L.filter isCode, P c = true) : L.all P = true := by
  refine List.all_eq_true.mpr fun c hc => ?_
  have h := List.all_eq_true.mp h1 c hc
  rcases Bool.eq_false_or_eq_true (isCode c) with hi | hi
  · exact h2 c (List.mem_filter.mpr ⟨hc, hi⟩)
  · simpa [hi] using h
set_option maxRecDepth 65536 in
theorem w_c0 : (Jvm.Cond.code x code maxLocals ret).before args0 about1 = true := code_word (m := ⟨1, 1⟩) (meth := k1m1) (c := k1c1) (by decide +kernel) rfl rfl rfl (by decide +kernel)
set_option maxRecDepth 65536 in
theorem w_c1 : (Jvm.Cond.code ({ cls := "com/example/foreslot/foreslot/CountsByEnd", name := "<init>", desc := "()V" } : Jvm.MethodName) prog_20_method_1_code (1 : Nat) (Option.none : Option Jvm.ClassFile.FieldType)).before args0 about1 = true := code_word (m := ⟨2, 0⟩) (meth := k2m0) (c := k2c0) (by decide +kernel) rfl rfl rfl (by decide +kernel)
set_option maxRecDepth 65536 in
theorem w_c2 : (Jvm.Cond.code ({ cls := "java/lang/Object", name := "<init>", desc := "()V" } : Jvm.MethodName) object_method_1_code (1 : Nat) (Option.none : Option Jvm.ClassFile.FieldType)).before args0 about1 = true := code_word (m := ⟨0, 0⟩) (meth := k0m0) (c := k0c0) (by decide +kernel) rfl rfl rfl (by decide +kernel)
set_option maxRecDepth 65536 in
theorem w_c3 : (Jvm.Cond.code ({ cls := "com/example/foreslot/foreslot/CountsByEnd", name := "heldUntilAtLatest", desc := "(J)J" } : Jvm.MethodName) prog_20_method_4_code (6 : Nat) (Option.some Jvm.ClassFile.FieldType.long)).before args0 about1 = true := code_word (m := ⟨2, 2⟩) (meth := k2m2) (c := k2c2) (by decide +kernel) rfl rfl rfl (by decide +kernel)
set_option maxRecDepth 65536 in
theorem w_c4 : (Jvm.Cond.code ({ cls := "com/example/foreslot/foreslot/CountsByEnd", name := "add", desc := "(JJ)V" } : Jvm.MethodName) prog_20_method_2_code (6 : Nat) (Option.none : Option Jvm.ClassFile.FieldType)).before args0 about1 = true := code_word (m := ⟨2, 1⟩) (meth := k2m1) (c := k2c1) (by decide +kernel) rfl rfl rfl (by decide +kernel)
set_option maxRecDepth 65536 in
theorem w_c5 : (Jvm.Cond.code ({ cls := "java/util/Arrays", name := "binarySearch", desc := "([JIIJ)I" } : Jvm.MethodName) jdk_65_method_55_code (5 : Nat) (Option.some Jvm.ClassFile.FieldType.int)).before args0 about1 = true := code_word (m := ⟨3, 2⟩) (meth := k3m2) (c := k3c2) (by decide +kernel) rfl rfl rfl (by decide +kernel)
set_option maxRecDepth 65536 in
theorem w_c6 : (Jvm.Cond.code ({ cls := "java/util/Arrays", name := "rangeCheck", desc := "(III)V" } : Jvm.MethodName) jdk_65_method_30_code (3 : Nat) (Option.none : Option Jvm.ClassFile.FieldType)).before args0 about1 = true := code_word (m := ⟨3, 1⟩) (meth := k3m1) (c := k3c1) (by decide +kernel) rfl rfl rfl (by decide +kernel)
set_option maxRecDepth 65536 in
theorem w_c7 : (Jvm.Cond.code ({ cls := "java/util/Arrays", name := "binarySearch0", desc := "([JIIJ)I" } : Jvm.MethodName) jdk_65_method_56_code (10 : Nat) (Option.some Jvm.ClassFile.FieldType.int)).before args0 about1 = true := code_word (m := ⟨3, 3⟩) (meth := k3m3) (c := k3c3) (by decide +kernel) rfl rfl rfl (by decide +kernel)
def codes1 : List Jvm.Cond := [Jvm.Cond.code x code maxLocals ret, Jvm.Cond.code ({ cls := "com/example/foreslot/foreslot/CountsByEnd", name := "<init>", desc := "()V" } : Jvm.MethodName) prog_20_method_1_code (1 : Nat) (Option.none : Option Jvm.ClassFile.FieldType), Jvm.Cond.code ({ cls := "java/lang/Object", name := "<init>", desc := "()V" } : Jvm.MethodName) object_method_1_code (1 : Nat) (Option.none : Option Jvm.ClassFile.FieldType), Jvm.Cond.code ({ cls := "com/example/foreslot/foreslot/CountsByEnd", name := "heldUntilAtLatest", desc := "(J)J" } : Jvm.MethodName) prog_20_method_4_code (6 : Nat) (Option.some Jvm.ClassFile.FieldType.long), Jvm.Cond.code ({ cls := "com/example/foreslot/foreslot/CountsByEnd", name := "add", desc := "(JJ)V" } : Jvm.MethodName) prog_20_method_2_code (6 : Nat) (Option.none : Option Jvm.ClassFile.FieldType), Jvm.Cond.code ({ cls := "java/util/Arrays", name := "binarySearch", desc := "([JIIJ)I" } : Jvm.MethodName) jdk_65_method_55_code (5 : Nat) (Option.some Jvm.ClassFile.FieldType.int), Jvm.Cond.code ({ cls := "java/util/Arrays", name := "rangeCheck", desc := "(III)V" } : Jvm.MethodName) jdk_65_method_30_code (3 : Nat) (Option.none : Option Jvm.ClassFile.FieldType), Jvm.Cond.code ({ cls := "java/util/Arrays", name := "binarySearch0", desc := "([JIIJ)I" } : Jvm.MethodName) jdk_65_method_56_code (10 : Nat) (Option.some Jvm.ClassFile.FieldType.int)]
set_option maxRecDepth 65536 in
theorem codes_eq : words1.filter isCode = codes1 := rfl
theorem w_codes : ∀ c ∈ words1.filter isCode, c.before args0 about1 = true := by
  rw [codes_eq]
  intro c hc
  simp only [codes1, List.mem_cons, List.not_mem_nil, or_false] at hc
  rcases hc with rfl | rfl | rfl | rfl | rfl | rfl | rfl | rfl
  · exact w_c0
  · exact w_c1
  · exact w_c2
  · exact w_c3
  · exact w_c4
  · exact w_c5
  · exact w_c6
  · exact w_c7
set_option maxRecDepth 65536 in
theorem w_t1 : (words1.take 24).all (fun c => isCode c || c.before args0 about1) = true := by decide +kernel
set_option maxRecDepth 65536 in
theorem w_t2 : (words1.drop 24).all (fun c => isCode c || c.before args0 about1) = true := by decide +kernel
theorem w_tables : (allAtoms (Jvm.Cond.code x code maxLocals ret :: tables_1)).before args0 about1 = true := by
  rw [allAtoms_all]
  show words1.all (fun c => c.before args0 about1) = true
  refine all_split ?_ w_codes
  rw [← List.take_append_drop 24 words1, List.all_append, w_t1, w_t2]
  rfl
set_option maxRecDepth 65536 in
theorem w_case : (Jvm.Cond.and given_1 narrow_1).before args0 about1 = true := by decide +kernel
theorem w_applies : (headSpec (Jvm.Cond.code x code maxLocals ret :: tables_1) room_1).applies x e0.platform about1 = true :=
  (Spec.applies_iff w_frames).mpr ⟨w_running, w_runnable, w_alone, w_named, w_hears, w_ripe, w_room, w_tables⟩
theorem atStart : AtStart classFile x code maxLocals ret World_1 tables_1 room_1 Calls_1 rest_1 Pre_1 launch0 p0 e0 about1 theMethod args0 below0 :=
  ⟨lists_1, trivial, launch0.admits_env _ _ _, launch0.least_env, fairChoices_fair.cas, fairChoices_fair.clock, w_frames, w_args, w_heap, w_applies, trivial, trivial, w_case⟩
end start1
theorem witness_1 : WitnessClaimed_1 := ⟨start1.p0, start1.e0, start1.about1, start1.theMethod, start1.args0, start1.below0, start1.atStart⟩
end Jvm.Pilot.@@N@@
