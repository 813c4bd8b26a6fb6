import JvmDerived
import JvmDerived.Pilot.@@N@@Statement
import JvmDerived.Pilot.@@N@@Code
set_option linter.unusedVariables false
set_option linter.unusedSimpArgs false
namespace Jvm.RoadKit
open Sem ClassFile Op Lib Jvm.Stand Jvm.Free Jvm.LawKit
section New
variable {p : Program} {l : Launch} {e : Env} {R : Room} {s : State} {m : MethodId} {args : Array Value} {below : List Frame} {meth : Method} {c : Code} {T : State} {locs : List Loc} {cells slots : Nat}
theorem retI (X : Stand p l e R s m args below meth c T locs cells slots) (hx : p.tables.exec = Jvm.exec) {pc : Nat} {Ls : Array Slot} {z : Int32} {rest : List Value} (hret : meth.sig.returnType = some .int) (hd : decode c.code pc = .ok (.ireturn, 1)) {fs : List Frame}
    (hl : ∀ (f : JFrame) (acts : List Action), f.method = m → f.locked = none → f.entered = [] → (doReturn e (T.setTop f) acts (some (.int z))).1 = T.setFrames fs) : Steps p.tables e below (T.setTop (mkF m pc Ls (.int z :: rest))) (T.setFrames fs) := by
  have hm' : T.vm.method? m = some meth := X.method'
  have hn : narrow .int (.int z) = .int z := rfl
  show Steps p.tables e below (T.setTop { method := m, pc := pc, locals := Ls, stack := _ :: rest, locked := none }) _
  jvm_step X.here [X.here.top, hx, hd, hm', hret, hn]
  first | (intro acts; rw [hl _ acts rfl rfl rfl]) | rw [hl _ _ rfl rfl rfl]
  exact Steps.refl _
end New
end Jvm.RoadKit
namespace Jvm.Pilot.@@N@@
open Jvm Jvm.ClassFile Sem Op Lib Jvm.Free Jvm.Stand Jvm.LawKit Jvm.RoadKit Bundle Jvm.Pilot.@@N@@.Jvm.D
theorem own_tlt {a b : Int32} {x y : Int} (ha : a.toInt = x) (hb : b.toInt = y) (h : x < y) : if_icmp.holds .lt a b = true ∧ if_icmp.holds .ge a b = false ∧ if_icmp.holds .gt b a = true ∧ if_icmp.holds .le b a = false := tlt (Int32.lt_iff_toInt_lt.mpr (by rw [ha, hb]; exact h))
theorem own_flt {a b : Int32} {x y : Int} (ha : a.toInt = x) (hb : b.toInt = y) (h : ¬ x < y) : if_icmp.holds .lt a b = false ∧ if_icmp.holds .ge a b = true ∧ if_icmp.holds .gt b a = false ∧ if_icmp.holds .le b a = true := flt (fun q => h (by rw [← ha, ← hb]; exact Int32.lt_iff_toInt_lt.mp q))
theorem own_teq {a b : Int32} {x y : Int} (ha : a.toInt = x) (hb : b.toInt = y) (h : x = y) : if_icmp.holds .eq a b = true ∧ if_icmp.holds .ne a b = false := teq (Int32.toInt_inj.mp (by rw [ha, hb]; exact h))
theorem own_feq {a b : Int32} {x y : Int} (ha : a.toInt = x) (hb : b.toInt = y) (h : ¬ x = y) : if_icmp.holds .eq a b = false ∧ if_icmp.holds .ne a b = true := feq (fun q => h (by rw [← ha, ← hb, q]))
theorem own_if {cd : ClassFile.Cond} {x : Int32} {b : Bool} (h : if_icmp.holds cd x 0 = b) : ifCond.holds cd x = b := (if0 cd x).trans h
abbrev kc0 := method_2_code
abbrev kc1 := jdk_42_method_55_code
abbrev kc2 := jdk_43_method_13_code
abbrev kc3 := jdk_42_method_66_code
abbrev kc4 := jdk_43_method_4_code
abbrev kc5 := jdk_29_method_65_code
abbrev kc6 := jdk_29_method_69_code
abbrev kc7 := jdk_52_method_5_code
abbrev kc8 := jdk_52_method_6_code
abbrev kc9 := jdk_41_method_12_code
abbrev kc10 := jdk_42_method_158_code
abbrev kc11 := jdk_52_method_93_code
abbrev kc12 := jdk_42_method_152_code
abbrev kc13 := jdk_42_method_54_code
abbrev kc14 := jdk_43_method_23_code
abbrev kc15 := jdk_52_method_48_code
abbrev kc16 := jdk_43_method_22_code
abbrev kc17 := jdk_52_method_47_code
abbrev kc18 := jdk_52_method_40_code
abbrev kc19 := jdk_42_method_154_code
abbrev kc20 := jdk_42_method_80_code
abbrev kc21 := jdk_42_method_79_code
abbrev kc22 := prog_60_method_3_code
abbrev kc23 := jdk_52_method_3_code
abbrev kc24 := jdk_52_method_2_code
abbrev kc25 := jdk_52_method_4_code
abbrev kc26 := jdk_52_method_14_code
abbrev kc27 := jdk_52_method_21_code
abbrev kc28 := jdk_52_method_16_code
abbrev kc29 := jdk_52_method_15_code
abbrev kc30 := jdk_42_method_149_code
abbrev kc31 := jdk_42_method_3_code
set_option maxRecDepth 65536
set_option maxHeartbeats 40000000
theorem ow {Z : State} {a0 : Array Value} (hw : ∀ d ∈ tables_1, d.before a0 Z = true) (i : Nat) {d : Jvm.Cond} (q : tables_1[i]? = some d) : d.before a0 Z = true := hw d (List.mem_of_getElem? q)
abbrev oP (p : Program) (e : Env) (b : List Frame) (A B : State) : Prop := ∀ t, Steps p.tables e b A t → Steps p.tables e b B t
abbrev yn0 : MethodName := ⟨"com/example/attestbridge/attestbridge/sync/AclPolicyIsNamePinLaw", "pick", "(I)C"⟩
abbrev yn1 : MethodName := ⟨"java/lang/String", "isEmpty", "()Z"⟩
abbrev yn2 : MethodName := ⟨"java/lang/StringLatin1", "equals", "([B[B)Z"⟩
abbrev yn3 : MethodName := ⟨"java/lang/String", "equals", "(Ljava/lang/Object;)Z"⟩
abbrev yn4 : MethodName := ⟨"java/lang/StringLatin1", "canEncode", "(I)Z"⟩
abbrev yn5 : MethodName := ⟨"java/lang/Math", "max", "(II)I"⟩
abbrev yn6 : MethodName := ⟨"java/lang/Math", "min", "(II)I"⟩
abbrev yn7 : MethodName := ⟨"java/lang/StringUTF16", "getChar", "([BI)C"⟩
abbrev yn8 : MethodName := ⟨"java/lang/StringUTF16", "length", "([B)I"⟩
abbrev yn9 : MethodName := ⟨"jdk/internal/util/Preconditions", "checkFromToIndex", "(IIILjava/util/function/BiFunction;)I"⟩
abbrev yn10 : MethodName := ⟨"java/lang/String", "checkBoundsBeginEnd", "(III)V"⟩
abbrev yn11 : MethodName := ⟨"java/lang/StringUTF16", "checkBoundsBeginEnd", "(II[B)V"⟩
abbrev yn12 : MethodName := ⟨"java/lang/String", "coder", "()B"⟩
abbrev yn13 : MethodName := ⟨"java/lang/String", "length", "()I"⟩
abbrev yn14 : MethodName := ⟨"java/lang/StringLatin1", "indexOfChar", "([BIII)I"⟩
abbrev yn15 : MethodName := ⟨"java/lang/StringUTF16", "indexOfCharUnsafe", "([BIII)I"⟩
abbrev yn16 : MethodName := ⟨"java/lang/StringLatin1", "indexOf", "([BIII)I"⟩
abbrev yn17 : MethodName := ⟨"java/lang/StringUTF16", "indexOfChar", "([BIII)I"⟩
abbrev yn18 : MethodName := ⟨"java/lang/StringUTF16", "indexOf", "([BIII)I"⟩
abbrev yn19 : MethodName := ⟨"java/lang/String", "isLatin1", "()Z"⟩
abbrev yn20 : MethodName := ⟨"java/lang/String", "indexOf", "(II)I"⟩
abbrev yn21 : MethodName := ⟨"java/lang/String", "indexOf", "(I)I"⟩
abbrev yn22 : MethodName := ⟨"com/example/attestbridge/attestbridge/sync/AclPolicy", "isName", "(Ljava/lang/String;)Z"⟩
abbrev yn23 : MethodName := ⟨"java/lang/StringUTF16", "newBytesLength", "(I)I"⟩
abbrev yn24 : MethodName := ⟨"java/lang/StringUTF16", "newBytesFor", "(I)[B"⟩
abbrev yn25 : MethodName := ⟨"java/lang/StringUTF16", "putChar", "([BII)V"⟩
abbrev yn26 : MethodName := ⟨"java/lang/StringUTF16", "toBytes", "([CII)[B"⟩
abbrev yn27 : MethodName := ⟨"java/lang/StringUTF16", "compress", "([CI[BII)I"⟩
abbrev yn28 : MethodName := ⟨"java/lang/StringUTF16", "compress", "([CII)[B"⟩
abbrev yn29 : MethodName := ⟨"java/lang/StringUTF16", "coderFromArrayLen", "([BI)B"⟩
abbrev yn30 : MethodName := ⟨"java/lang/String", "<init>", "([CIILjava/lang/Void;)V"⟩
abbrev yn31 : MethodName := ⟨"java/lang/String", "<init>", "([C)V"⟩
def own_EL : List (String × Nat) := [("com/example/attestbridge/attestbridge/sync/AclPolicy", 75), ("com/example/attestbridge/attestbridge/sync/AclPolicy", 81), ("java/lang/String", 7)]
theorem own_EW {Z : State} {a0 : Array Value} (hw : ∀ d ∈ tables_1, d.before a0 Z = true) : EW Z a0 own_EL := (EW.cons (text := ".") (ow hw 47 rfl) (by decide) (EW.cons (text := "..") (ow hw 58 rfl) (by decide) (EW.cons (text := "") (ow hw 19 rfl) (by decide) EW.nil)))
theorem own_wS {Z : State} {a0 : Array Value} (hw : ∀ d ∈ tables_1, d.before a0 Z = true) : ∀ a ∈ Bundle.stringAtoms, a.before a0 Z = true := by
  intro a ha
  simp only [Bundle.stringAtoms, List.mem_cons, List.not_mem_nil, or_false] at ha
  rcases ha with rfl | rfl | rfl | rfl | rfl | rfl | rfl
  · exact (ow hw 8 rfl)
  · exact (ow hw 7 rfl)
  · exact (ow hw 20 rfl)
  · exact (ow hw 21 rfl)
  · exact (ow hw 22 rfl)
  · exact (ow hw 23 rfl)
  · exact (ow hw 24 rfl)
def own_st (Z : State) (h : Heap) (vcs : Int32) (vf : Value) : Prop := Sta Z h "java/lang/String" "COMPACT_STRINGS" "Z" (.int vcs) ∧ ¬ vcs.toInt = 0 ∧ Sta Z h "jdk/internal/util/Preconditions" "SIOOBE_FORMATTER" "Ljava/util/function/BiFunction;" vf ∧ vf.isRef = true ∧ Sta Z h "java/lang/StringUTF16" "$assertionsDisabled" "Z" (.int 1) ∧ Sta Z h "java/lang/StringUTF16" "HI_BYTE_SHIFT" "I" (.int 0) ∧ Sta Z h "java/lang/StringUTF16" "LO_BYTE_SHIFT" "I" (.int 8)
theorem own_st_ext {Z : State} {h h' : Heap} {vcs : Int32} {vf : Value} (F : own_st Z h vcs vf) (E : Ext h h') : own_st Z h' vcs vf := ⟨F.1.ext E, F.2.1, F.2.2.1.ext E, F.2.2.2.1, F.2.2.2.2.1.ext E, F.2.2.2.2.2.1.ext E, F.2.2.2.2.2.2.ext E⟩
theorem own_st_wr {Z : State} {h h' : Heap} {a : Addr} {sl : Nat} {v : Value} {vcs : Int32} {vf : Value} (F : own_st Z h vcs vf) (W : Wr h h' a sl v) : own_st Z h' vcs vf := ⟨F.1.wr W, F.2.1, F.2.2.1.wr W, F.2.2.2.1, F.2.2.2.2.1.wr W, F.2.2.2.2.2.1.wr W, F.2.2.2.2.2.2.wr W⟩
theorem own_sta_keep {Z : State} {h h' : Heap} {ws : List Addr} {C n d : String} {v : Value} (F : Sta Z h C n d v) (K : Keep h h' ws) (hs : ∀ x ∈ ws, ∀ cell : Cell, h[x]? = some cell → cell.vm.isStatics = false) : Sta Z h' C n d v := by
  obtain ⟨cf, i, k, f, st, cell, h1, h2, h3, h4, h5, h6, h7⟩ := F
  refine ⟨cf, i, k, f, st, cell, h1, h2, h3, h4, K.2.1 st cell h5 (fun hm => ?_), h6, h7⟩
  have q := hs st hm cell h5
  rw [q] at h6; cases h6
theorem own_st_keep {Z : State} {h h' : Heap} {ws : List Addr} {vcs : Int32} {vf : Value} (F : own_st Z h vcs vf) (K : Keep h h' ws) (hs : ∀ x ∈ ws, ∀ cell : Cell, h[x]? = some cell → cell.vm.isStatics = false) : own_st Z h' vcs vf := ⟨own_sta_keep F.1 K hs, F.2.1, own_sta_keep F.2.2.1 K hs, F.2.2.2.1, own_sta_keep F.2.2.2.2.1 K hs, own_sta_keep F.2.2.2.2.2.1 K hs, own_sta_keep F.2.2.2.2.2.2 K hs⟩
theorem own_narc (x : Int32) (h1 : 0 ≤ x.toInt) (h2 : x.toInt < 65536) : nar .char x = x := by
  have e : nar .char x = x.toUInt32.toUInt16.toUInt32.toInt32 := rfl
  have q := c_i2c x
  rw [e]; apply Int32.toInt_inj.mp; omega
theorem own_b2 (c : Int32) (h1 : 0 ≤ c.toInt) (h2 : c.toInt ≤ 255) : (nar .byte c.toInt8.toInt32).toInt % 256 = c.toInt := by
  have e : nar .byte c.toInt8.toInt32 = c.toInt8.toInt32.toInt8.toInt32 := rfl
  have q := c_i2b c; have q2 := c_i2b c.toInt8.toInt32
  rw [e]; omega
theorem own_narcZ (x : Int32) : (nar .char x).toInt = x.toInt % 65536 := by
  have e : nar .char x = x.toUInt32.toUInt16.toUInt32.toInt32 := rfl
  have q := c_i2c x
  rw [e]; omega
theorem own_nat {j : Int32} {n : Nat} (h : j.toInt = (n : Int)) : j.toNatClampNeg = n := by
  unfold Int32.toNatClampNeg; rw [h]; rfl
theorem own_fld_inj {Z : State} {h : Heap} {a : Addr} {C n d : String} {v w : Value} (F : Fld Z h a C n d v) (G : Fld Z h a C n d w) : v = w := Classical.byContradiction fun q => F.ne G q rfl
theorem own_arv_inj {Z : State} {h : Heap} {a : Addr} {k k' : ClassId} {ty ty' : FieldType} {n n' : Int32} {vs vs' : List Value} {d d' : Value} (A : Arv Z h a k ty n vs d) (B : Arv Z h a k' ty' n' vs' d') : n.toNatClampNeg = n'.toNatClampNeg ∧ ∀ i, i < n.toNatClampNeg → vs.getD i d = vs'.getD i d' := by
  obtain ⟨c, A1, -, A3, -, A5, -⟩ := A
  obtain ⟨c', B1, -, B3, -, B5, -⟩ := B
  obtain rfl : c = c' := Option.some.inj (A1.1.symm.trans B1.1)
  refine ⟨A3.symm.trans B3, fun i hi => ?_⟩
  have hi' : i < c.slots.size := by rw [A3]; exact hi
  exact Option.some.inj ((A5 i hi').symm.trans (B5 i hi'))
theorem own_same {Z : State} {h : Heap} {oa la ob lb : Addr} {C n d : String} (e : oa = la) (F : Fld Z h oa C n d (.ref ob)) (G : Fld Z h la C n d (.ref lb)) : ob = lb := by
  subst e
  have q := own_fld_inj F G
  exact Value.ref.inj q
theorem own_ne_len {Z : State} {h : Heap} {oa la ob lb : Addr} {C n d : String} {k k' : ClassId} {ty ty' : FieldType} {z z' : Int32} {vs vs' : List Value} {e e' : Value} (F : Fld Z h oa C n d (.ref ob)) (G : Fld Z h la C n d (.ref lb)) (A : Arv Z h ob k ty z vs e) (B : Arv Z h lb k' ty' z' vs' e') (hn : z.toNatClampNeg ≠ z'.toNatClampNeg) : oa ≠ la := fun q => by
  have w := own_same q F G
  subst w
  exact hn (own_arv_inj A B).1
theorem own_ne_cod {Z : State} {h : Heap} {oa la : Addr} {C n d : String} (F : Fld Z h oa C n d (.int 1)) (G : Fld Z h la C n d (.int 0)) : oa ≠ la := F.ne G (fun q => absurd (Value.int.inj q) (by decide))
theorem own_byte {Z : State} {h : Heap} {a : Addr} {k : ClassId} {n b : Int32} {vs : List Value} {d : Value} (A : Arv Z h a k .byte n vs d) (i : Nat) (hi : i < n.toNatClampNeg) (e : vs.getD i d = .int b) : -128 ≤ b.toInt ∧ b.toInt ≤ 127 := by
  obtain ⟨c, A1, -, A3, -, A5, A6⟩ := A
  have q := A6 i (by rw [A3]; exact hi)
  rw [e] at q
  have q2 : (-128 : Int32) ≤ b ∧ b ≤ (127 : Int32) := by simpa [fits] using q
  have q3 := Int32.le_iff_toInt_le.mp q2.1; have q4 := Int32.le_iff_toInt_le.mp q2.2
  have k1 : (-128 : Int32).toInt = -128 := (by decide); have k2 : (127 : Int32).toInt = 127 := (by decide)
  omega
theorem d1_0 : decode kc0 0 = .ok (.iload_n 0, 1) := by decide +kernel
theorem d1_1 : decode kc0 1 = .ok (.iconst 3, 1) := by decide +kernel
theorem d1_2 : decode kc0 2 = .ok (.iand, 1) := by decide +kernel
theorem d1_3 : decode kc0 3 = .ok (.istore_n 1, 1) := by decide +kernel
theorem d1_4 : decode kc0 4 = .ok (.iload_n 1, 1) := by decide +kernel
theorem d1_5 : decode kc0 5 = .ok (.ifCond .ne 6, 3) := by decide +kernel
theorem d1_8 : decode kc0 8 = .ok (.bipush 46, 2) := by decide +kernel
theorem d1_10 : decode kc0 10 = .ok (.ireturn, 1) := by decide +kernel
theorem d1_11 : decode kc0 11 = .ok (.iload_n 1, 1) := by decide +kernel
theorem d1_12 : decode kc0 12 = .ok (.iconst 1, 1) := by decide +kernel
theorem d1_13 : decode kc0 13 = .ok (.if_icmp .ne 5, 3) := by decide +kernel
theorem d1_16 : decode kc0 16 = .ok (.iconst 0, 1) := by decide +kernel
theorem d1_17 : decode kc0 17 = .ok (.ireturn, 1) := by decide +kernel
theorem d1_18 : decode kc0 18 = .ok (.iload_n 0, 1) := by decide +kernel
theorem d1_19 : decode kc0 19 = .ok (.iconst 2, 1) := by decide +kernel
theorem d1_20 : decode kc0 20 = .ok (.iushr, 1) := by decide +kernel
theorem d1_21 : decode kc0 21 = .ok (.i2c, 1) := by decide +kernel
theorem d1_22 : decode kc0 22 = .ok (.ireturn, 1) := by decide +kernel
theorem pn_0 : plainName "com/example/attestbridge/attestbridge/sync/AclPolicyIsNamePinLaw" = true := by first | (simp [plainName, overriddenIn]; done) | decide +kernel
theorem ef_rm1 (m : MethodId) (x0 : Int32) : entryFrame m #[(.int x0)] 2 = mkF m 0 #[.val (.int x0), .unset] [] := by first | (simp [entryFrame, mkF, argsToLocals, Value.category]; done) | rfl
def Q1 (Z : State) (vx : Int32) (h0 : Heap) (n0 : Nat) (v : Option Value) (h : Heap) (L : List Loc) : Prop := ∃ z : Int32, v = some (.int z) ∧ (0 ≤ z.toInt ∧ z.toInt < 65536) ∧ Fr n0 L ∧ h = h0
theorem rm1 (l : Launch) (Z : State) (a0 : Array Value) (hw : ∀ d ∈ tables_1, d.before a0 Z = true) (ws : List Jvm.Cond) (vx : Int32) (h0 : Heap) (n0 : Nat) (Z0 : n0 ≤ h0.size) :
    MetFree l yn0 (head1 (Jvm.Cond.code yn0 kc0 2 (some .char) :: ws) ⟨0, 0, 0, 0⟩) (fun a U => a = #[(.int vx)] ∧ Z.Warmed39 U.vm ∧ U.heap = h0) (fun _ _ _ _ _ => True) (fun _ U o U' => ∃ v L, o = .returned v ∧ Q1 Z vx h0 n0 v U'.heap L ∧ FrameEnd U o U' L 0 0) := by
  refine MetFree.of_bodySF (plainFor_of_name pn_0) hisR ?_
  intro p e s m args below meth c s₁ Bd hml0 hP hK
  obtain ⟨rfl, hZ, hh⟩ := hP
  have hx := Bd.exec
  have hby := Bd.bytes
  have hml : c.maxLocals = 2 := hml0
  have hown : s.vm.findClass "com/example/attestbridge/attestbridge/sync/AclPolicyIsNamePinLaw" = some m.cls := findClass_of_methodNamed Bd.named
  have hnm := (name_of_methodNamed Bd.named Bd.method).1
  have X0 : Stand p l e ⟨0, 0, 0, 0⟩ s m #[(.int vx)] below meth c s₁ [] 0 0 := Stand.of_body Bd
  have e0 : s₁.heap = h0 := by rw [← hh, Bd.state]; rfl
  have N0 := Fr.nil n0
  obtain ⟨SS, hSS⟩ : ∃ S, S = s₁.setTop (entryFrame m #[(.int vx)] 2) := ⟨_, rfl⟩
  have pre0 : oP p e below (s₁.setTop (mkF m 0 #[.val (.int vx), .unset] [])) (SS) := by
    rw [hSS]; exact fun t k => castTop (ef_rm1 m vx) k
  have pre2 : oP p e below (s₁.setTop (mkF m 5 #[.val (.int vx), .val (.int (vx &&& (3 : Int32)))] [(.int (vx &&& (3 : Int32)))])) (SS) := fun t kt => by
    refine pre0 _ ?_
    refine XS.iloadN X0.here hx rfl (hb hby d1_0) rfl ?_
    refine XS.iconst X0.here hx rfl (hb hby d1_1) ?_
    refine XS.iand X0.here hx rfl (hb hby d1_2) rfl ?_
    refine XS.istoreN X0.here hx rfl (hb hby d1_3) rfl (l' := #[.val (.int vx), .val (.int (vx &&& (3 : Int32)))]) rfl ?_
    refine XS.iloadN X0.here hx rfl (hb hby d1_4) rfl ?_
    exact kt
  by_cases hc5_1 : (vx &&& (3 : Int32)).toInt = (0 : Int)
  · subst hSS
    obtain ⟨fs, hr, q1, q2, q3, q4⟩ := X0.leave (v := some (.int 46)) (fun h => by rw [Bd.returns] at h; cases h)
    refine ⟨_, _, pre2 _ ?_, q1, q2, _, _, rfl, ?_, ⟨_, rfl⟩, q3, q4.mono (by decide) (by decide)⟩
    · refine XS.ifNo X0.here hx rfl (hb hby d1_5) rfl (own_if (own_teq (a := (vx &&& (3 : Int32))) (b := (0 : Int32)) rfl (by decide) hc5_1).2) ?_
      refine XS.bipush X0.here hx rfl (hb hby d1_8) ?_
      exact retN X0 hx (t := .char) Bd.returns (by simp) (hb hby d1_10) hr
    · show Q1 Z _ h0 n0 _ s₁.heap _
      rw [e0]
      exact ⟨_, rfl, by have iv : ((46 : Int32)).toInt = (46 : Int) := (by decide); omega, N0, rfl⟩
  · have pre4 : oP p e below (s₁.setTop (mkF m 13 #[.val (.int vx), .val (.int (vx &&& (3 : Int32)))] [(.int 1), (.int (vx &&& (3 : Int32)))])) (SS) := fun t kt => by
      refine pre2 _ ?_
      refine XS.ifYes X0.here hx rfl (pc0 := 5) (pc' := 11) rfl (hb hby d1_5) rfl (own_if (own_feq (a := (vx &&& (3 : Int32))) (b := (0 : Int32)) rfl (by decide) hc5_1).2) (by decide) (by decide) ?_
      refine XS.iloadN X0.here hx rfl (hb hby d1_11) rfl ?_
      refine XS.iconst X0.here hx rfl (hb hby d1_12) ?_
      exact kt
    by_cases hc13_3 : (vx &&& (3 : Int32)).toInt = (1 : Int)
    · subst hSS
      obtain ⟨fs, hr, q1, q2, q3, q4⟩ := X0.leave (v := some (.int 0)) (fun h => by rw [Bd.returns] at h; cases h)
      refine ⟨_, _, pre4 _ ?_, q1, q2, _, _, rfl, ?_, ⟨_, rfl⟩, q3, q4.mono (by decide) (by decide)⟩
      · refine XS.icmpNo X0.here hx rfl (hb hby d1_13) rfl (own_teq (a := (vx &&& (3 : Int32))) (b := (1 : Int32)) rfl (by decide) hc13_3).2 ?_
        refine XS.iconst X0.here hx rfl (hb hby d1_16) ?_
        exact retN X0 hx (t := .char) Bd.returns (by simp) (hb hby d1_17) hr
      · show Q1 Z _ h0 n0 _ s₁.heap _
        rw [e0]
        exact ⟨_, rfl, by have iv : ((0 : Int32)).toInt = (0 : Int) := (by decide); omega, N0, rfl⟩
    · subst hSS
      obtain ⟨fs, hr, q1, q2, q3, q4⟩ := X0.leave (v := some (.int (nar .char (((vx.toUInt32 >>> ((2 : Int32) &&& 31).toUInt32).toInt32).toUInt32.toUInt16.toUInt32.toInt32)))) (fun h => by rw [Bd.returns] at h; cases h)
      refine ⟨_, _, pre4 _ ?_, q1, q2, _, _, rfl, ?_, ⟨_, rfl⟩, q3, q4.mono (by decide) (by decide)⟩
      · refine XS.icmpYes X0.here hx rfl (pc0 := 13) (pc' := 18) rfl (hb hby d1_13) rfl (own_feq (a := (vx &&& (3 : Int32))) (b := (1 : Int32)) rfl (by decide) hc13_3).2 (by decide) (by decide) ?_
        refine XS.iloadN X0.here hx rfl (hb hby d1_18) rfl ?_
        refine XS.iconst X0.here hx rfl (hb hby d1_19) ?_
        refine XS.iushr X0.here hx rfl (hb hby d1_20) rfl ?_
        refine XS.i2c X0.here hx rfl (hb hby d1_21) rfl ?_
        exact retN X0 hx (t := .char) Bd.returns (by simp) (hb hby d1_22) hr
      · show Q1 Z _ h0 n0 _ s₁.heap _
        rw [e0]
        exact ⟨_, rfl, by rw [own_narcZ]; omega, N0, rfl⟩
theorem d6_0 : decode kc1 0 = .ok (.aload_n 0, 1) := by decide +kernel
theorem d6_1 : decode kc1 1 = .ok (.getfield 9, 3) := by decide +kernel
theorem d6_4 : decode kc1 4 = .ok (.arraylength, 1) := by decide +kernel
theorem d6_5 : decode kc1 5 = .ok (.ifCond .ne 7, 3) := by decide +kernel
theorem d6_8 : decode kc1 8 = .ok (.iconst 1, 1) := by decide +kernel
theorem d6_9 : decode kc1 9 = .ok (.goto 4, 3) := by decide +kernel
theorem d6_12 : decode kc1 12 = .ok (.iconst 0, 1) := by decide +kernel
theorem d6_13 : decode kc1 13 = .ok (.ireturn, 1) := by decide +kernel
theorem pn_1 : plainName "java/lang/String" = true := by first | (simp [plainName, overriddenIn]; done) | decide +kernel
theorem ef_rm_emp (m : MethodId) (x0 : Addr) : entryFrame m #[(.ref x0)] 1 = mkF m 0 #[.val (.ref x0)] [] := by first | (simp [entryFrame, mkF, argsToLocals, Value.category]; done) | rfl
def Q_emp (Z : State) (oa : Addr) (ob : Addr) (kb : ClassId) (zl : Int32) (vs : List Value) (h0 : Heap) (n0 : Nat) (v : Option Value) (h : Heap) (L : List Loc) : Prop := ∃ z : Int32, v = some (.int z) ∧ ((z = (1 : Int32) ∧ zl.toInt = 0) ∨ (z = (0 : Int32) ∧ ¬ zl.toInt = 0)) ∧ Fr n0 L ∧ h = h0
theorem rm_emp (l : Launch) (Z : State) (a0 : Array Value) (hw : ∀ d ∈ tables_1, d.before a0 Z = true) (ws : List Jvm.Cond) (oa : Addr) (ob : Addr) (kb : ClassId) (zl : Int32) (vs : List Value) (h0 : Heap) (n0 : Nat) (Z0 : n0 ≤ h0.size) (Fv : Fld Z h0 oa "java/lang/String" "value" "[B" (.ref ob)) (Vb : Arv Z h0 ob kb .byte zl vs (.int 0)) :
    MetFree l yn1 (head1 (Jvm.Cond.code yn1 kc1 1 (some .boolean) :: ws) ⟨0, 0, 0, 0⟩) (fun a U => a = #[(.ref oa)] ∧ Z.Warmed39 U.vm ∧ U.heap = h0) (fun _ _ _ _ _ => True) (fun _ U o U' => ∃ v L, o = .returned v ∧ Q_emp Z oa ob kb zl vs h0 n0 v U'.heap L ∧ FrameEnd U o U' L 0 0) := by
  refine MetFree.of_bodySF (plainFor_of_name pn_1) hisR ?_
  intro p e s m args below meth c s₁ Bd hml0 hP hK
  obtain ⟨rfl, hZ, hh⟩ := hP
  have hx := Bd.exec
  have hby := Bd.bytes
  have hml : c.maxLocals = 1 := hml0
  have hown : s.vm.findClass "java/lang/String" = some m.cls := findClass_of_methodNamed Bd.named
  have hnm := (name_of_methodNamed Bd.named Bd.method).1
  have X0 : Stand p l e ⟨0, 0, 0, 0⟩ s m #[(.ref oa)] below meth c s₁ [] 0 0 := Stand.of_body Bd
  have e0 : s₁.heap = h0 := by rw [← hh, Bd.state]; rfl
  have N0 := Fr.nil n0
  obtain ⟨SS, hSS⟩ : ∃ S, S = s₁.setTop (entryFrame m #[(.ref oa)] 1) := ⟨_, rfl⟩
  have pre0 : oP p e below (s₁.setTop (mkF m 0 #[.val (.ref oa)] [])) (SS) := by
    rw [hSS]; exact fun t k => castTop (ef_rm_emp m oa) k
  obtain ⟨T1, X1, e1, st1⟩ := getF X0 hx hZ hown (host := "") (Or.inl (ow hw 25 rfl)) Via.refl e0 Fv (g := (mkF m 1 #[.val (.ref oa)] [(.ref oa)])) rfl rfl (hb hby d6_1)
  obtain ⟨cl2, Ar2, q2, S2, M2, H2, G2⟩ := id Vb
  have pre4 : oP p e below (T1.setTop (mkF m 5 #[.val (.ref oa)] [(.int zl)])) (SS) := fun t kt => by
    refine pre0 _ ?_
    refine XS.aloadN X0.here hx rfl (hb hby d6_0) rfl rfl ?_
    refine st1 _ ?_
    refine X1.arraylength hx (by rw [e1]; exact Ar2.1) (State.isArrayOf_alike hZ.alike Ar2.2.1) (g := (mkF m 4 #[.val (.ref oa)] [(.ref ob)])) rfl rfl (hb hby d6_4) _ ?_
    rw [len_of S2 M2]
    exact kt
  by_cases hc5_3 : zl.toInt = (0 : Int)
  · subst hSS
    obtain ⟨fs, hr, q1, q2, q3, q4⟩ := X1.leave (v := some (.int 1)) (fun h => by rw [Bd.returns] at h; cases h)
    refine ⟨_, _, pre4 _ ?_, q1, q2, _, _, rfl, ?_, ⟨_, rfl⟩, q3, q4.mono (by decide) (by decide)⟩
    · refine XS.ifNo X1.here hx rfl (hb hby d6_5) rfl (own_if (own_teq (a := zl) (b := (0 : Int32)) rfl (by decide) hc5_3).2) ?_
      refine XS.iconst X1.here hx rfl (hb hby d6_8) ?_
      refine XS.goto X1.here hx rfl (pc0 := 9) (pc' := 13) rfl (hb hby d6_9) (by decide) (by decide) ?_
      exact retN X1 hx (t := .boolean) Bd.returns (by simp) (hb hby d6_13) hr
    · show Q_emp Z _ _ _ _ _ h0 n0 _ T1.heap _
      rw [e1]
      exact ⟨_, rfl, Or.inl ⟨rfl, by omega⟩, N0, rfl⟩
  · subst hSS
    obtain ⟨fs, hr, q1, q2, q3, q4⟩ := X1.leave (v := some (.int 0)) (fun h => by rw [Bd.returns] at h; cases h)
    refine ⟨_, _, pre4 _ ?_, q1, q2, _, _, rfl, ?_, ⟨_, rfl⟩, q3, q4.mono (by decide) (by decide)⟩
    · refine XS.ifYes X1.here hx rfl (pc0 := 5) (pc' := 12) rfl (hb hby d6_5) rfl (own_if (own_feq (a := zl) (b := (0 : Int32)) rfl (by decide) hc5_3).2) (by decide) (by decide) ?_
      refine XS.iconst X1.here hx rfl (hb hby d6_12) ?_
      exact retN X1 hx (t := .boolean) Bd.returns (by simp) (hb hby d6_13) hr
    · show Q_emp Z _ _ _ _ _ h0 n0 _ T1.heap _
      rw [e1]
      exact ⟨_, rfl, Or.inr ⟨rfl, by omega⟩, N0, rfl⟩
theorem d11_0 : decode kc2 0 = .ok (.aload_n 0, 1) := by decide +kernel
theorem d11_1 : decode kc2 1 = .ok (.arraylength, 1) := by decide +kernel
theorem d11_2 : decode kc2 2 = .ok (.aload_n 1, 1) := by decide +kernel
theorem d11_3 : decode kc2 3 = .ok (.arraylength, 1) := by decide +kernel
theorem d11_4 : decode kc2 4 = .ok (.if_icmp .ne 30, 3) := by decide +kernel
theorem d11_34 : decode kc2 34 = .ok (.iconst 0, 1) := by decide +kernel
theorem d11_35 : decode kc2 35 = .ok (.ireturn, 1) := by decide +kernel
theorem pn_2 : plainName "java/lang/StringLatin1" = true := by first | (simp [plainName, overriddenIn]; done) | decide +kernel
theorem ef_rm_leN (m : MethodId) (x0 : Addr) (x1 : Addr) : entryFrame m #[(.ref x0), (.ref x1)] 3 = mkF m 0 #[.val (.ref x0), .val (.ref x1), .unset] [] := by first | (simp [entryFrame, mkF, argsToLocals, Value.category]; done) | rfl
def Q_leN (Z : State) (ob : Addr) (lb : Addr) (kb : ClassId) (kl : ClassId) (zl : Int32) (vs : List Value) (zm : Int32) (ws_ : List Value) (h0 : Heap) (n0 : Nat) (v : Option Value) (h : Heap) (L : List Loc) : Prop := ∃ z : Int32, v = some (.int z) ∧ (z = (0 : Int32)) ∧ Fr n0 L ∧ h = h0
theorem rm_leN (l : Launch) (Z : State) (a0 : Array Value) (hw : ∀ d ∈ tables_1, d.before a0 Z = true) (ws : List Jvm.Cond) (ob : Addr) (lb : Addr) (kb : ClassId) (kl : ClassId) (zl : Int32) (vs : List Value) (zm : Int32) (ws_ : List Value) (h0 : Heap) (n0 : Nat) (Z0 : n0 ≤ h0.size) (Vb : Arv Z h0 ob kb .byte zl vs (.int 0)) (Vl : Arv Z h0 lb kl .byte zm ws_ (.int 0)) (hne : ¬ zl.toInt = zm.toInt) :
    MetFree l yn2 (head1 (Jvm.Cond.code yn2 kc2 3 (some .boolean) :: ws) ⟨0, 0, 0, 0⟩) (fun a U => a = #[(.ref ob), (.ref lb)] ∧ Z.Warmed39 U.vm ∧ U.heap = h0) (fun _ _ _ _ _ => True) (fun _ U o U' => ∃ v L, o = .returned v ∧ Q_leN Z ob lb kb kl zl vs zm ws_ h0 n0 v U'.heap L ∧ FrameEnd U o U' L 0 0) := by
  refine MetFree.of_bodySF (plainFor_of_name pn_2) hisR ?_
  intro p e s m args below meth c s₁ Bd hml0 hP hK
  obtain ⟨rfl, hZ, hh⟩ := hP
  have hx := Bd.exec
  have hby := Bd.bytes
  have hml : c.maxLocals = 3 := hml0
  have hown : s.vm.findClass "java/lang/StringLatin1" = some m.cls := findClass_of_methodNamed Bd.named
  have hnm := (name_of_methodNamed Bd.named Bd.method).1
  have X0 : Stand p l e ⟨0, 0, 0, 0⟩ s m #[(.ref ob), (.ref lb)] below meth c s₁ [] 0 0 := Stand.of_body Bd
  have e0 : s₁.heap = h0 := by rw [← hh, Bd.state]; rfl
  have N0 := Fr.nil n0
  obtain ⟨SS, hSS⟩ : ∃ S, S = s₁.setTop (entryFrame m #[(.ref ob), (.ref lb)] 3) := ⟨_, rfl⟩
  have pre0 : oP p e below (s₁.setTop (mkF m 0 #[.val (.ref ob), .val (.ref lb), .unset] [])) (SS) := by
    rw [hSS]; exact fun t k => castTop (ef_rm_leN m ob lb) k
  obtain ⟨cl1, Ar1, q1, S1, M1, H1, G1⟩ := id Vb
  obtain ⟨cl2, Ar2, q2, S2, M2, H2, G2⟩ := id Vl
  have hc4_3 : ¬ (zl.toInt = zm.toInt) := by omega
  subst hSS
  obtain ⟨fs, hr, q1, q2, q3, q4⟩ := X0.leave (v := some (.int 0)) (fun h => by rw [Bd.returns] at h; cases h)
  refine ⟨_, _, pre0 _ ?_, q1, q2, _, _, rfl, ?_, ⟨_, rfl⟩, q3, q4.mono (by decide) (by decide)⟩
  · refine XS.aloadN X0.here hx rfl (hb hby d11_0) rfl rfl ?_
    refine X0.arraylength hx (by rw [e0]; exact Ar1.1) (State.isArrayOf_alike hZ.alike Ar1.2.1) (g := (mkF m 1 #[.val (.ref ob), .val (.ref lb), .unset] [(.ref ob)])) rfl rfl (hb hby d11_1) _ ?_
    rw [len_of S1 M1]
    refine XS.aloadN X0.here hx rfl (hb hby d11_2) rfl rfl ?_
    refine X0.arraylength hx (by rw [e0]; exact Ar2.1) (State.isArrayOf_alike hZ.alike Ar2.2.1) (g := (mkF m 3 #[.val (.ref ob), .val (.ref lb), .unset] [(.ref lb), (.int zl)])) rfl rfl (hb hby d11_3) _ ?_
    rw [len_of S2 M2]
    refine XS.icmpYes X0.here hx rfl (pc0 := 4) (pc' := 34) rfl (hb hby d11_4) rfl (own_feq (a := zl) (b := zm) rfl rfl hc4_3).2 (by decide) (by decide) ?_
    refine XS.iconst X0.here hx rfl (hb hby d11_34) ?_
    exact retN X0 hx (t := .boolean) Bd.returns (by simp) (hb hby d11_35) hr
  · show Q_leN Z _ _ _ _ _ _ _ _ h0 n0 _ s₁.heap _
    rw [e0]
    exact ⟨_, rfl, rfl, N0, rfl⟩
theorem d11_7 : decode kc2 7 = .ok (.iconst 0, 1) := by decide +kernel
theorem d11_8 : decode kc2 8 = .ok (.istore_n 2, 1) := by decide +kernel
theorem d11_9 : decode kc2 9 = .ok (.iload_n 2, 1) := by decide +kernel
theorem d11_10 : decode kc2 10 = .ok (.aload_n 0, 1) := by decide +kernel
theorem d11_11 : decode kc2 11 = .ok (.arraylength, 1) := by decide +kernel
theorem d11_12 : decode kc2 12 = .ok (.if_icmp .ge 20, 3) := by decide +kernel
theorem d11_15 : decode kc2 15 = .ok (.aload_n 0, 1) := by decide +kernel
theorem d11_16 : decode kc2 16 = .ok (.iload_n 2, 1) := by decide +kernel
theorem d11_17 : decode kc2 17 = .ok (.baload, 1) := by decide +kernel
theorem d11_18 : decode kc2 18 = .ok (.aload_n 1, 1) := by decide +kernel
theorem d11_19 : decode kc2 19 = .ok (.iload_n 2, 1) := by decide +kernel
theorem d11_20 : decode kc2 20 = .ok (.baload, 1) := by decide +kernel
theorem d11_21 : decode kc2 21 = .ok (.if_icmp .eq 5, 3) := by decide +kernel
theorem d11_24 : decode kc2 24 = .ok (.iconst 0, 1) := by decide +kernel
theorem d11_25 : decode kc2 25 = .ok (.ireturn, 1) := by decide +kernel
theorem d11_26 : decode kc2 26 = .ok (.iinc 2 1, 3) := by decide +kernel
theorem d11_29 : decode kc2 29 = .ok (.goto (-20), 3) := by decide +kernel
theorem d11_32 : decode kc2 32 = .ok (.iconst 1, 1) := by decide +kernel
theorem d11_33 : decode kc2 33 = .ok (.ireturn, 1) := by decide +kernel
theorem ef_rm_leE1 (m : MethodId) (x0 : Addr) (x1 : Addr) : entryFrame m #[(.ref x0), (.ref x1)] 3 = mkF m 0 #[.val (.ref x0), .val (.ref x1), .unset] [] := by first | (simp [entryFrame, mkF, argsToLocals, Value.category]; done) | rfl
def Q_leE1 (Z : State) (ob : Addr) (lb : Addr) (kb : ClassId) (kl : ClassId) (bb0 : Int32) (h0 : Heap) (n0 : Nat) (v : Option Value) (h : Heap) (L : List Loc) : Prop := ∃ z : Int32, v = some (.int z) ∧ ((z = (1 : Int32) ∧ (bb0.toInt = 46)) ∨ (z = (0 : Int32) ∧ ¬ (bb0.toInt = 46))) ∧ Fr n0 L ∧ h = h0
theorem rm_leE1 (l : Launch) (Z : State) (a0 : Array Value) (hw : ∀ d ∈ tables_1, d.before a0 Z = true) (ws : List Jvm.Cond) (ob : Addr) (lb : Addr) (kb : ClassId) (kl : ClassId) (bb0 : Int32) (h0 : Heap) (n0 : Nat) (Z0 : n0 ≤ h0.size) (Vb : Arv Z h0 ob kb .byte (1 : Int32) [(.int bb0)] (.int 0)) (Vl : Arv Z h0 lb kl .byte (1 : Int32) [(.int 46)] (.int 0)) :
    MetFree l yn2 (head1 (Jvm.Cond.code yn2 kc2 3 (some .boolean) :: ws) ⟨0, 0, 0, 0⟩) (fun a U => a = #[(.ref ob), (.ref lb)] ∧ Z.Warmed39 U.vm ∧ U.heap = h0) (fun _ _ _ _ _ => True) (fun _ U o U' => ∃ v L, o = .returned v ∧ Q_leE1 Z ob lb kb kl bb0 h0 n0 v U'.heap L ∧ FrameEnd U o U' L 0 0) := by
  refine MetFree.of_bodySF (plainFor_of_name pn_2) hisR ?_
  intro p e s m args below meth c s₁ Bd hml0 hP hK
  obtain ⟨rfl, hZ, hh⟩ := hP
  have hx := Bd.exec
  have hby := Bd.bytes
  have hml : c.maxLocals = 3 := hml0
  have hown : s.vm.findClass "java/lang/StringLatin1" = some m.cls := findClass_of_methodNamed Bd.named
  have hnm := (name_of_methodNamed Bd.named Bd.method).1
  have X0 : Stand p l e ⟨0, 0, 0, 0⟩ s m #[(.ref ob), (.ref lb)] below meth c s₁ [] 0 0 := Stand.of_body Bd
  have e0 : s₁.heap = h0 := by rw [← hh, Bd.state]; rfl
  have N0 := Fr.nil n0
  obtain ⟨SS, hSS⟩ : ∃ S, S = s₁.setTop (entryFrame m #[(.ref ob), (.ref lb)] 3) := ⟨_, rfl⟩
  have pre0 : oP p e below (s₁.setTop (mkF m 0 #[.val (.ref ob), .val (.ref lb), .unset] [])) (SS) := by
    rw [hSS]; exact fun t k => castTop (ef_rm_leE1 m ob lb) k
  obtain ⟨cl1, Ar1, q1, S1, M1, H1, G1⟩ := id Vb
  obtain ⟨cl2, Ar2, q2, S2, M2, H2, G2⟩ := id Vl
  have hc4_3 : (1 : Int) = (1 : Int) := by decide
  obtain ⟨cl4, Ar4, q4, S4, M4, H4, G4⟩ := id Vb
  have hc12_5 : (0 : Int) < (1 : Int) := by decide
  obtain ⟨cl6, Ar6, q6, S6, M6, H6, G6⟩ := id Vb
  have hin6 : ¬ ((0 : Int32) < 0 ∨ cl6.slots.size ≤ ((0 : Int32)).toNatClampNeg) := inb_of S6 ⟨by decide, by decide⟩
  have hat6 : cl6.slots[((0 : Int32)).toNatClampNeg]? = some (.int bb0) := Has.at H6 hin6 rfl
  obtain ⟨cl7, Ar7, q7, S7, M7, H7, G7⟩ := id Vl
  have hin7 : ¬ ((0 : Int32) < 0 ∨ cl7.slots.size ≤ ((0 : Int32)).toNatClampNeg) := inb_of S7 ⟨by decide, by decide⟩
  have hat7 : cl7.slots[((0 : Int32)).toNatClampNeg]? = some (.int 46) := Has.at H7 hin7 rfl
  have pre9 : oP p e below (s₁.setTop (mkF m 21 #[.val (.ref ob), .val (.ref lb), .val (.int 0)] [(.int 46), (.int bb0)])) (SS) := fun t kt => by
    refine pre0 _ ?_
    refine XS.aloadN X0.here hx rfl (hb hby d11_0) rfl rfl ?_
    refine X0.arraylength hx (by rw [e0]; exact Ar1.1) (State.isArrayOf_alike hZ.alike Ar1.2.1) (g := (mkF m 1 #[.val (.ref ob), .val (.ref lb), .unset] [(.ref ob)])) rfl rfl (hb hby d11_1) _ ?_
    rw [len_of S1 M1]
    refine XS.aloadN X0.here hx rfl (hb hby d11_2) rfl rfl ?_
    refine X0.arraylength hx (by rw [e0]; exact Ar2.1) (State.isArrayOf_alike hZ.alike Ar2.2.1) (g := (mkF m 3 #[.val (.ref ob), .val (.ref lb), .unset] [(.ref lb), (.int 1)])) rfl rfl (hb hby d11_3) _ ?_
    rw [len_of S2 M2]
    refine XS.icmpNo X0.here hx rfl (hb hby d11_4) rfl (own_teq (a := (1 : Int32)) (b := (1 : Int32)) (by decide) (by decide) hc4_3).2 ?_
    refine XS.iconst X0.here hx rfl (hb hby d11_7) ?_
    refine XS.istoreN X0.here hx rfl (hb hby d11_8) rfl (l' := #[.val (.ref ob), .val (.ref lb), .val (.int 0)]) rfl ?_
    refine XS.iloadN X0.here hx rfl (hb hby d11_9) rfl ?_
    refine XS.aloadN X0.here hx rfl (hb hby d11_10) rfl rfl ?_
    refine X0.arraylength hx (by rw [e0]; exact Ar4.1) (State.isArrayOf_alike hZ.alike Ar4.2.1) (g := (mkF m 11 #[.val (.ref ob), .val (.ref lb), .val (.int 0)] [(.ref ob), (.int 0)])) rfl rfl (hb hby d11_11) _ ?_
    rw [len_of S4 M4]
    refine XS.icmpNo X0.here hx rfl (hb hby d11_12) rfl (own_tlt (a := (0 : Int32)) (b := (1 : Int32)) (by decide) (by decide) hc12_5).2.1 ?_
    refine XS.aloadN X0.here hx rfl (hb hby d11_15) rfl rfl ?_
    refine XS.iloadN X0.here hx rfl (hb hby d11_16) rfl ?_
    refine X0.baloadBytes hx (j := (0 : Int32)) (v := (.int bb0)) (by rw [e0]; exact Ar6.1) (State.isArrayOf_alike hZ.alike Ar6.2.1) Ar6.2.2 hin6 hat6 (g := (mkF m 17 #[.val (.ref ob), .val (.ref lb), .val (.int 0)] [(.int 0), (.ref ob)])) rfl rfl (hb hby d11_17) _ ?_
    refine XS.aloadN X0.here hx rfl (hb hby d11_18) rfl rfl ?_
    refine XS.iloadN X0.here hx rfl (hb hby d11_19) rfl ?_
    refine X0.baloadBytes hx (j := (0 : Int32)) (v := (.int 46)) (by rw [e0]; exact Ar7.1) (State.isArrayOf_alike hZ.alike Ar7.2.1) Ar7.2.2 hin7 hat7 (g := (mkF m 20 #[.val (.ref ob), .val (.ref lb), .val (.int 0)] [(.int 0), (.ref lb), (.int bb0)])) rfl rfl (hb hby d11_20) _ ?_
    exact kt
  by_cases hc21_8 : bb0.toInt = (46 : Int)
  · obtain ⟨cl10, Ar10, q10, S10, M10, H10, G10⟩ := id Vb
    have hc12_11 : ¬ ((1 : Int) < (1 : Int)) := by decide
    subst hSS
    obtain ⟨fs, hr, q1, q2, q3, q4⟩ := X0.leave (v := some (.int 1)) (fun h => by rw [Bd.returns] at h; cases h)
    refine ⟨_, _, pre9 _ ?_, q1, q2, _, _, rfl, ?_, ⟨_, rfl⟩, q3, q4.mono (by decide) (by decide)⟩
    · refine XS.icmpYes X0.here hx rfl (pc0 := 21) (pc' := 26) rfl (hb hby d11_21) rfl (own_teq (a := bb0) (b := (46 : Int32)) rfl (by decide) hc21_8).1 (by decide) (by decide) ?_
      refine XS.iinc X0.here hx rfl (hb hby d11_26) rfl (l' := #[.val (.ref ob), .val (.ref lb), .val (.int 1)]) rfl ?_
      show Steps p.tables e below (s₁.setTop (mkF m 29 #[.val (.ref ob), .val (.ref lb), .val (.int 1)] [])) _
      refine XS.goto X0.here hx rfl (pc0 := 29) (pc' := 9) rfl (hb hby d11_29) (by decide) (by decide) ?_
      refine XS.iloadN X0.here hx rfl (hb hby d11_9) rfl ?_
      refine XS.aloadN X0.here hx rfl (hb hby d11_10) rfl rfl ?_
      refine X0.arraylength hx (by rw [e0]; exact Ar10.1) (State.isArrayOf_alike hZ.alike Ar10.2.1) (g := (mkF m 11 #[.val (.ref ob), .val (.ref lb), .val (.int 1)] [(.ref ob), (.int 1)])) rfl rfl (hb hby d11_11) _ ?_
      rw [len_of S10 M10]
      refine XS.icmpYes X0.here hx rfl (pc0 := 12) (pc' := 32) rfl (hb hby d11_12) rfl (own_flt (a := (1 : Int32)) (b := (1 : Int32)) (by decide) (by decide) hc12_11).2.1 (by decide) (by decide) ?_
      refine XS.iconst X0.here hx rfl (hb hby d11_32) ?_
      exact retN X0 hx (t := .boolean) Bd.returns (by simp) (hb hby d11_33) hr
    · show Q_leE1 Z _ _ _ _ _ h0 n0 _ s₁.heap _
      rw [e0]
      exact ⟨_, rfl, Or.inl ⟨rfl, by omega⟩, N0, rfl⟩
  · subst hSS
    obtain ⟨fs, hr, q1, q2, q3, q4⟩ := X0.leave (v := some (.int 0)) (fun h => by rw [Bd.returns] at h; cases h)
    refine ⟨_, _, pre9 _ ?_, q1, q2, _, _, rfl, ?_, ⟨_, rfl⟩, q3, q4.mono (by decide) (by decide)⟩
    · refine XS.icmpNo X0.here hx rfl (hb hby d11_21) rfl (own_feq (a := bb0) (b := (46 : Int32)) rfl (by decide) hc21_8).1 ?_
      refine XS.iconst X0.here hx rfl (hb hby d11_24) ?_
      show Steps p.tables e below (s₁.setTop (mkF m 25 #[.val (.ref ob), .val (.ref lb), .val (.int 0)] [(.int 0)])) _
      exact retN X0 hx (t := .boolean) Bd.returns (by simp) (hb hby d11_25) hr
    · show Q_leE1 Z _ _ _ _ _ h0 n0 _ s₁.heap _
      rw [e0]
      exact ⟨_, rfl, Or.inr ⟨rfl, by omega⟩, N0, rfl⟩
theorem ef_rm_leE2 (m : MethodId) (x0 : Addr) (x1 : Addr) : entryFrame m #[(.ref x0), (.ref x1)] 3 = mkF m 0 #[.val (.ref x0), .val (.ref x1), .unset] [] := by first | (simp [entryFrame, mkF, argsToLocals, Value.category]; done) | rfl
def Q_leE2 (Z : State) (ob : Addr) (lb : Addr) (kb : ClassId) (kl : ClassId) (bb0 : Int32) (bb1 : Int32) (h0 : Heap) (n0 : Nat) (v : Option Value) (h : Heap) (L : List Loc) : Prop := ∃ z : Int32, v = some (.int z) ∧ ((z = (1 : Int32) ∧ (bb0.toInt = 46 ∧ bb1.toInt = 46)) ∨ (z = (0 : Int32) ∧ ¬ (bb0.toInt = 46 ∧ bb1.toInt = 46))) ∧ Fr n0 L ∧ h = h0
theorem rm_leE2 (l : Launch) (Z : State) (a0 : Array Value) (hw : ∀ d ∈ tables_1, d.before a0 Z = true) (ws : List Jvm.Cond) (ob : Addr) (lb : Addr) (kb : ClassId) (kl : ClassId) (bb0 : Int32) (bb1 : Int32) (h0 : Heap) (n0 : Nat) (Z0 : n0 ≤ h0.size) (Vb : Arv Z h0 ob kb .byte (2 : Int32) [(.int bb0), (.int bb1)] (.int 0)) (Vl : Arv Z h0 lb kl .byte (2 : Int32) [(.int 46), (.int 46)] (.int 0)) :
    MetFree l yn2 (head1 (Jvm.Cond.code yn2 kc2 3 (some .boolean) :: ws) ⟨0, 0, 0, 0⟩) (fun a U => a = #[(.ref ob), (.ref lb)] ∧ Z.Warmed39 U.vm ∧ U.heap = h0) (fun _ _ _ _ _ => True) (fun _ U o U' => ∃ v L, o = .returned v ∧ Q_leE2 Z ob lb kb kl bb0 bb1 h0 n0 v U'.heap L ∧ FrameEnd U o U' L 0 0) := by
  refine MetFree.of_bodySF (plainFor_of_name pn_2) hisR ?_
  intro p e s m args below meth c s₁ Bd hml0 hP hK
  obtain ⟨rfl, hZ, hh⟩ := hP
  have hx := Bd.exec
  have hby := Bd.bytes
  have hml : c.maxLocals = 3 := hml0
  have hown : s.vm.findClass "java/lang/StringLatin1" = some m.cls := findClass_of_methodNamed Bd.named
  have hnm := (name_of_methodNamed Bd.named Bd.method).1
  have X0 : Stand p l e ⟨0, 0, 0, 0⟩ s m #[(.ref ob), (.ref lb)] below meth c s₁ [] 0 0 := Stand.of_body Bd
  have e0 : s₁.heap = h0 := by rw [← hh, Bd.state]; rfl
  have N0 := Fr.nil n0
  obtain ⟨SS, hSS⟩ : ∃ S, S = s₁.setTop (entryFrame m #[(.ref ob), (.ref lb)] 3) := ⟨_, rfl⟩
  have pre0 : oP p e below (s₁.setTop (mkF m 0 #[.val (.ref ob), .val (.ref lb), .unset] [])) (SS) := by
    rw [hSS]; exact fun t k => castTop (ef_rm_leE2 m ob lb) k
  obtain ⟨cl1, Ar1, q1, S1, M1, H1, G1⟩ := id Vb
  obtain ⟨cl2, Ar2, q2, S2, M2, H2, G2⟩ := id Vl
  have hc4_3 : (2 : Int) = (2 : Int) := by decide
  obtain ⟨cl4, Ar4, q4, S4, M4, H4, G4⟩ := id Vb
  have hc12_5 : (0 : Int) < (2 : Int) := by decide
  obtain ⟨cl6, Ar6, q6, S6, M6, H6, G6⟩ := id Vb
  have hin6 : ¬ ((0 : Int32) < 0 ∨ cl6.slots.size ≤ ((0 : Int32)).toNatClampNeg) := inb_of S6 ⟨by decide, by decide⟩
  have hat6 : cl6.slots[((0 : Int32)).toNatClampNeg]? = some (.int bb0) := Has.at H6 hin6 rfl
  obtain ⟨cl7, Ar7, q7, S7, M7, H7, G7⟩ := id Vl
  have hin7 : ¬ ((0 : Int32) < 0 ∨ cl7.slots.size ≤ ((0 : Int32)).toNatClampNeg) := inb_of S7 ⟨by decide, by decide⟩
  have hat7 : cl7.slots[((0 : Int32)).toNatClampNeg]? = some (.int 46) := Has.at H7 hin7 rfl
  have pre9 : oP p e below (s₁.setTop (mkF m 21 #[.val (.ref ob), .val (.ref lb), .val (.int 0)] [(.int 46), (.int bb0)])) (SS) := fun t kt => by
    refine pre0 _ ?_
    refine XS.aloadN X0.here hx rfl (hb hby d11_0) rfl rfl ?_
    refine X0.arraylength hx (by rw [e0]; exact Ar1.1) (State.isArrayOf_alike hZ.alike Ar1.2.1) (g := (mkF m 1 #[.val (.ref ob), .val (.ref lb), .unset] [(.ref ob)])) rfl rfl (hb hby d11_1) _ ?_
    rw [len_of S1 M1]
    refine XS.aloadN X0.here hx rfl (hb hby d11_2) rfl rfl ?_
    refine X0.arraylength hx (by rw [e0]; exact Ar2.1) (State.isArrayOf_alike hZ.alike Ar2.2.1) (g := (mkF m 3 #[.val (.ref ob), .val (.ref lb), .unset] [(.ref lb), (.int 2)])) rfl rfl (hb hby d11_3) _ ?_
    rw [len_of S2 M2]
    refine XS.icmpNo X0.here hx rfl (hb hby d11_4) rfl (own_teq (a := (2 : Int32)) (b := (2 : Int32)) (by decide) (by decide) hc4_3).2 ?_
    refine XS.iconst X0.here hx rfl (hb hby d11_7) ?_
    refine XS.istoreN X0.here hx rfl (hb hby d11_8) rfl (l' := #[.val (.ref ob), .val (.ref lb), .val (.int 0)]) rfl ?_
    refine XS.iloadN X0.here hx rfl (hb hby d11_9) rfl ?_
    refine XS.aloadN X0.here hx rfl (hb hby d11_10) rfl rfl ?_
    refine X0.arraylength hx (by rw [e0]; exact Ar4.1) (State.isArrayOf_alike hZ.alike Ar4.2.1) (g := (mkF m 11 #[.val (.ref ob), .val (.ref lb), .val (.int 0)] [(.ref ob), (.int 0)])) rfl rfl (hb hby d11_11) _ ?_
    rw [len_of S4 M4]
    refine XS.icmpNo X0.here hx rfl (hb hby d11_12) rfl (own_tlt (a := (0 : Int32)) (b := (2 : Int32)) (by decide) (by decide) hc12_5).2.1 ?_
    refine XS.aloadN X0.here hx rfl (hb hby d11_15) rfl rfl ?_
    refine XS.iloadN X0.here hx rfl (hb hby d11_16) rfl ?_
    refine X0.baloadBytes hx (j := (0 : Int32)) (v := (.int bb0)) (by rw [e0]; exact Ar6.1) (State.isArrayOf_alike hZ.alike Ar6.2.1) Ar6.2.2 hin6 hat6 (g := (mkF m 17 #[.val (.ref ob), .val (.ref lb), .val (.int 0)] [(.int 0), (.ref ob)])) rfl rfl (hb hby d11_17) _ ?_
    refine XS.aloadN X0.here hx rfl (hb hby d11_18) rfl rfl ?_
    refine XS.iloadN X0.here hx rfl (hb hby d11_19) rfl ?_
    refine X0.baloadBytes hx (j := (0 : Int32)) (v := (.int 46)) (by rw [e0]; exact Ar7.1) (State.isArrayOf_alike hZ.alike Ar7.2.1) Ar7.2.2 hin7 hat7 (g := (mkF m 20 #[.val (.ref ob), .val (.ref lb), .val (.int 0)] [(.int 0), (.ref lb), (.int bb0)])) rfl rfl (hb hby d11_20) _ ?_
    exact kt
  by_cases hc21_8 : bb0.toInt = (46 : Int)
  · obtain ⟨cl10, Ar10, q10, S10, M10, H10, G10⟩ := id Vb
    have hc12_11 : (1 : Int) < (2 : Int) := by decide
    obtain ⟨cl12, Ar12, q12, S12, M12, H12, G12⟩ := id Vb
    have hin12 : ¬ ((1 : Int32) < 0 ∨ cl12.slots.size ≤ ((1 : Int32)).toNatClampNeg) := inb_of S12 ⟨by decide, by decide⟩
    have hat12 : cl12.slots[((1 : Int32)).toNatClampNeg]? = some (.int bb1) := Has.at H12 hin12 rfl
    obtain ⟨cl13, Ar13, q13, S13, M13, H13, G13⟩ := id Vl
    have hin13 : ¬ ((1 : Int32) < 0 ∨ cl13.slots.size ≤ ((1 : Int32)).toNatClampNeg) := inb_of S13 ⟨by decide, by decide⟩
    have hat13 : cl13.slots[((1 : Int32)).toNatClampNeg]? = some (.int 46) := Has.at H13 hin13 rfl
    have pre15 : oP p e below (s₁.setTop (mkF m 21 #[.val (.ref ob), .val (.ref lb), .val (.int 1)] [(.int 46), (.int bb1)])) (SS) := fun t kt => by
      refine pre9 _ ?_
      refine XS.icmpYes X0.here hx rfl (pc0 := 21) (pc' := 26) rfl (hb hby d11_21) rfl (own_teq (a := bb0) (b := (46 : Int32)) rfl (by decide) hc21_8).1 (by decide) (by decide) ?_
      refine XS.iinc X0.here hx rfl (hb hby d11_26) rfl (l' := #[.val (.ref ob), .val (.ref lb), .val (.int 1)]) rfl ?_
      show Steps p.tables e below (s₁.setTop (mkF m 29 #[.val (.ref ob), .val (.ref lb), .val (.int 1)] [])) _
      refine XS.goto X0.here hx rfl (pc0 := 29) (pc' := 9) rfl (hb hby d11_29) (by decide) (by decide) ?_
      refine XS.iloadN X0.here hx rfl (hb hby d11_9) rfl ?_
      refine XS.aloadN X0.here hx rfl (hb hby d11_10) rfl rfl ?_
      refine X0.arraylength hx (by rw [e0]; exact Ar10.1) (State.isArrayOf_alike hZ.alike Ar10.2.1) (g := (mkF m 11 #[.val (.ref ob), .val (.ref lb), .val (.int 1)] [(.ref ob), (.int 1)])) rfl rfl (hb hby d11_11) _ ?_
      rw [len_of S10 M10]
      refine XS.icmpNo X0.here hx rfl (hb hby d11_12) rfl (own_tlt (a := (1 : Int32)) (b := (2 : Int32)) (by decide) (by decide) hc12_11).2.1 ?_
      refine XS.aloadN X0.here hx rfl (hb hby d11_15) rfl rfl ?_
      refine XS.iloadN X0.here hx rfl (hb hby d11_16) rfl ?_
      refine X0.baloadBytes hx (j := (1 : Int32)) (v := (.int bb1)) (by rw [e0]; exact Ar12.1) (State.isArrayOf_alike hZ.alike Ar12.2.1) Ar12.2.2 hin12 hat12 (g := (mkF m 17 #[.val (.ref ob), .val (.ref lb), .val (.int 1)] [(.int 1), (.ref ob)])) rfl rfl (hb hby d11_17) _ ?_
      refine XS.aloadN X0.here hx rfl (hb hby d11_18) rfl rfl ?_
      refine XS.iloadN X0.here hx rfl (hb hby d11_19) rfl ?_
      refine X0.baloadBytes hx (j := (1 : Int32)) (v := (.int 46)) (by rw [e0]; exact Ar13.1) (State.isArrayOf_alike hZ.alike Ar13.2.1) Ar13.2.2 hin13 hat13 (g := (mkF m 20 #[.val (.ref ob), .val (.ref lb), .val (.int 1)] [(.int 1), (.ref lb), (.int bb1)])) rfl rfl (hb hby d11_20) _ ?_
      exact kt
    by_cases hc21_14 : bb1.toInt = (46 : Int)
    · obtain ⟨cl16, Ar16, q16, S16, M16, H16, G16⟩ := id Vb
      have hc12_17 : ¬ ((2 : Int) < (2 : Int)) := by decide
      subst hSS
      obtain ⟨fs, hr, q1, q2, q3, q4⟩ := X0.leave (v := some (.int 1)) (fun h => by rw [Bd.returns] at h; cases h)
      refine ⟨_, _, pre15 _ ?_, q1, q2, _, _, rfl, ?_, ⟨_, rfl⟩, q3, q4.mono (by decide) (by decide)⟩
      · refine XS.icmpYes X0.here hx rfl (pc0 := 21) (pc' := 26) rfl (hb hby d11_21) rfl (own_teq (a := bb1) (b := (46 : Int32)) rfl (by decide) hc21_14).1 (by decide) (by decide) ?_
        refine XS.iinc X0.here hx rfl (hb hby d11_26) rfl (l' := #[.val (.ref ob), .val (.ref lb), .val (.int 2)]) rfl ?_
        refine XS.goto X0.here hx rfl (pc0 := 29) (pc' := 9) rfl (hb hby d11_29) (by decide) (by decide) ?_
        refine XS.iloadN X0.here hx rfl (hb hby d11_9) rfl ?_
        refine XS.aloadN X0.here hx rfl (hb hby d11_10) rfl rfl ?_
        refine X0.arraylength hx (by rw [e0]; exact Ar16.1) (State.isArrayOf_alike hZ.alike Ar16.2.1) (g := (mkF m 11 #[.val (.ref ob), .val (.ref lb), .val (.int 2)] [(.ref ob), (.int 2)])) rfl rfl (hb hby d11_11) _ ?_
        rw [len_of S16 M16]
        refine XS.icmpYes X0.here hx rfl (pc0 := 12) (pc' := 32) rfl (hb hby d11_12) rfl (own_flt (a := (2 : Int32)) (b := (2 : Int32)) (by decide) (by decide) hc12_17).2.1 (by decide) (by decide) ?_
        refine XS.iconst X0.here hx rfl (hb hby d11_32) ?_
        exact retN X0 hx (t := .boolean) Bd.returns (by simp) (hb hby d11_33) hr
      · show Q_leE2 Z _ _ _ _ _ _ h0 n0 _ s₁.heap _
        rw [e0]
        exact ⟨_, rfl, Or.inl ⟨rfl, by omega⟩, N0, rfl⟩
    · subst hSS
      obtain ⟨fs, hr, q1, q2, q3, q4⟩ := X0.leave (v := some (.int 0)) (fun h => by rw [Bd.returns] at h; cases h)
      refine ⟨_, _, pre15 _ ?_, q1, q2, _, _, rfl, ?_, ⟨_, rfl⟩, q3, q4.mono (by decide) (by decide)⟩
      · refine XS.icmpNo X0.here hx rfl (hb hby d11_21) rfl (own_feq (a := bb1) (b := (46 : Int32)) rfl (by decide) hc21_14).1 ?_
        refine XS.iconst X0.here hx rfl (hb hby d11_24) ?_
        exact retN X0 hx (t := .boolean) Bd.returns (by simp) (hb hby d11_25) hr
      · show Q_leE2 Z _ _ _ _ _ _ h0 n0 _ s₁.heap _
        rw [e0]
        exact ⟨_, rfl, Or.inr ⟨rfl, by omega⟩, N0, rfl⟩
  · subst hSS
    obtain ⟨fs, hr, q1, q2, q3, q4⟩ := X0.leave (v := some (.int 0)) (fun h => by rw [Bd.returns] at h; cases h)
    refine ⟨_, _, pre9 _ ?_, q1, q2, _, _, rfl, ?_, ⟨_, rfl⟩, q3, q4.mono (by decide) (by decide)⟩
    · refine XS.icmpNo X0.here hx rfl (hb hby d11_21) rfl (own_feq (a := bb0) (b := (46 : Int32)) rfl (by decide) hc21_8).1 ?_
      refine XS.iconst X0.here hx rfl (hb hby d11_24) ?_
      show Steps p.tables e below (s₁.setTop (mkF m 25 #[.val (.ref ob), .val (.ref lb), .val (.int 0)] [(.int 0)])) _
      exact retN X0 hx (t := .boolean) Bd.returns (by simp) (hb hby d11_25) hr
    · show Q_leE2 Z _ _ _ _ _ _ h0 n0 _ s₁.heap _
      rw [e0]
      exact ⟨_, rfl, Or.inr ⟨rfl, by omega⟩, N0, rfl⟩
theorem d10_0 : decode kc3 0 = .ok (.aload_n 0, 1) := by decide +kernel
theorem d10_1 : decode kc3 1 = .ok (.aload_n 1, 1) := by decide +kernel
theorem d10_2 : decode kc3 2 = .ok (.if_acmp .ne 5, 3) := by decide +kernel
theorem d10_7 : decode kc3 7 = .ok (.aload_n 1, 1) := by decide +kernel
theorem d10_8 : decode kc3 8 = .ok (.instanceof 10, 3) := by decide +kernel
theorem d10_11 : decode kc3 11 = .ok (.ifCond .eq 43, 3) := by decide +kernel
theorem d10_14 : decode kc3 14 = .ok (.aload_n 1, 1) := by decide +kernel
theorem d10_15 : decode kc3 15 = .ok (.checkcast 10, 3) := by decide +kernel
theorem d10_18 : decode kc3 18 = .ok (.astore_n 2, 1) := by decide +kernel
theorem d10_19 : decode kc3 19 = .ok (.getstatic 38, 3) := by decide +kernel
theorem d10_22 : decode kc3 22 = .ok (.ifCond .eq 14, 3) := by decide +kernel
theorem d10_25 : decode kc3 25 = .ok (.aload_n 0, 1) := by decide +kernel
theorem d10_26 : decode kc3 26 = .ok (.getfield 15, 3) := by decide +kernel
theorem d10_29 : decode kc3 29 = .ok (.aload_n 2, 1) := by decide +kernel
theorem d10_30 : decode kc3 30 = .ok (.getfield 15, 3) := by decide +kernel
theorem d10_33 : decode kc3 33 = .ok (.if_icmp .ne 21, 3) := by decide +kernel
theorem d10_54 : decode kc3 54 = .ok (.iconst 0, 1) := by decide +kernel
theorem d10_55 : decode kc3 55 = .ok (.ireturn, 1) := by decide +kernel
theorem ef_rm_eqU (m : MethodId) (x0 : Addr) (x1 : Addr) : entryFrame m #[(.ref x0), (.ref x1)] 3 = mkF m 0 #[.val (.ref x0), .val (.ref x1), .unset] [] := by first | (simp [entryFrame, mkF, argsToLocals, Value.category]; done) | rfl
def Q_eqU (Z : State) (oa : Addr) (la : Addr) (vcs : Int32) (vf : Value) (ob : Addr) (kb : ClassId) (lb : Addr) (kl : ClassId) (zl : Int32) (vs : List Value) (zm : Int32) (ws_ : List Value) (h0 : Heap) (n0 : Nat) (v : Option Value) (h : Heap) (L : List Loc) : Prop := ∃ z : Int32, v = some (.int z) ∧ (z = (0 : Int32)) ∧ Fr n0 L ∧ h = h0
theorem rm_eqU (l : Launch) (Z : State) (a0 : Array Value) (hw : ∀ d ∈ tables_1, d.before a0 Z = true) (ws : List Jvm.Cond) (oa : Addr) (la : Addr) (vcs : Int32) (vf : Value) (ob : Addr) (kb : ClassId) (lb : Addr) (kl : ClassId) (zl : Int32) (vs : List Value) (zm : Int32) (ws_ : List Value) (h0 : Heap) (n0 : Nat) (Z0 : n0 ≤ h0.size) (Os : own_st Z h0 vcs vf) (Es : Exa Z h0 oa "java/lang/String") (Fc : Fld Z h0 oa "java/lang/String" "coder" "B" (.int 1)) (Fv : Fld Z h0 oa "java/lang/String" "value" "[B" (.ref ob)) (Vb : Arv Z h0 ob kb .byte zl vs (.int 0)) (El : Exa Z h0 la "java/lang/String") (Gc : Fld Z h0 la "java/lang/String" "coder" "B" (.int 0)) (Gv : Fld Z h0 la "java/lang/String" "value" "[B" (.ref lb)) (Vl : Arv Z h0 lb kl .byte zm ws_ (.int 0)) (nab : oa ≠ la) :
    MetFree l yn3 (head1 (Jvm.Cond.code yn3 kc3 3 (some .boolean) :: ws) ⟨0, 0, 0, 0⟩) (fun a U => a = #[(.ref oa), (.ref la)] ∧ Z.Warmed39 U.vm ∧ U.heap = h0) (fun _ _ _ _ _ => True) (fun _ U o U' => ∃ v L, o = .returned v ∧ Q_eqU Z oa la vcs vf ob kb lb kl zl vs zm ws_ h0 n0 v U'.heap L ∧ FrameEnd U o U' L 0 0) := by
  refine MetFree.of_bodySF (plainFor_of_name pn_1) hisR ?_
  intro p e s m args below meth c s₁ Bd hml0 hP hK
  obtain ⟨rfl, hZ, hh⟩ := hP
  have hx := Bd.exec
  have hby := Bd.bytes
  have hml : c.maxLocals = 3 := hml0
  have hown : s.vm.findClass "java/lang/String" = some m.cls := findClass_of_methodNamed Bd.named
  have hnm := (name_of_methodNamed Bd.named Bd.method).1
  have X0 : Stand p l e ⟨0, 0, 0, 0⟩ s m #[(.ref oa), (.ref la)] below meth c s₁ [] 0 0 := Stand.of_body Bd
  have e0 : s₁.heap = h0 := by rw [← hh, Bd.state]; rfl
  have N0 := Fr.nil n0
  obtain ⟨SS, hSS⟩ : ∃ S, S = s₁.setTop (entryFrame m #[(.ref oa), (.ref la)] 3) := ⟨_, rfl⟩
  have pre0 : oP p e below (s₁.setTop (mkF m 0 #[.val (.ref oa), .val (.ref la), .unset] [])) (SS) := by
    rw [hSS]; exact fun t k => castTop (ef_rm_eqU m oa la) k
  obtain ⟨T1, X1, e1, st1⟩ := instY X0 hx hZ hown (ow hw 53 rfl) e0 (Ins.self El) (g := (mkF m 8 #[.val (.ref oa), .val (.ref la), .unset] [(.ref la)])) rfl rfl (hb hby d10_8)
  have hc11_2 : ¬ ((1 : Int) = (0 : Int)) := by decide
  obtain ⟨T3, X3, e3, st3⟩ := castY X1 hx hZ hown (ow hw 53 rfl) e1 (Ins.self El) (g := (mkF m 15 #[.val (.ref oa), .val (.ref la), .unset] [(.ref la)])) rfl rfl (hb hby d10_15)
  obtain ⟨T4, X4, e4, st4⟩ := getS2 X3 hx hZ hown (host := "") (Or.inl (ow hw 36 rfl)) Via.refl e3 Os.1 (g := (mkF m 19 #[.val (.ref oa), .val (.ref la), .val (.ref la)] [])) rfl (hb hby d10_19)
  have hc22_5 : ¬ (vcs.toInt = (0 : Int)) := by (have q := Os.2.1; omega)
  obtain ⟨T6, X6, e6, st6⟩ := getF X4 hx hZ hown (host := "") (Or.inl (ow hw 26 rfl)) Via.refl e4 Fc (g := (mkF m 26 #[.val (.ref oa), .val (.ref la), .val (.ref la)] [(.ref oa)])) rfl rfl (hb hby d10_26)
  obtain ⟨T7, X7, e7, st7⟩ := getF X6 hx hZ hown (host := "") (Or.inl (ow hw 26 rfl)) Via.refl e6 Gc (g := (mkF m 30 #[.val (.ref oa), .val (.ref la), .val (.ref la)] [(.ref la), (.int 1)])) rfl rfl (hb hby d10_30)
  have hc33_8 : ¬ ((1 : Int) = (0 : Int)) := by decide
  subst hSS
  obtain ⟨fs, hr, q1, q2, q3, q4⟩ := X7.leave (v := some (.int 0)) (fun h => by rw [Bd.returns] at h; cases h)
  refine ⟨_, _, pre0 _ ?_, q1, q2, _, _, rfl, ?_, ⟨_, rfl⟩, q3, q4.mono (by decide) (by decide)⟩
  · refine XS.aloadN X0.here hx rfl (hb hby d10_0) rfl rfl ?_
    refine XS.aloadN X0.here hx rfl (hb hby d10_1) rfl rfl ?_
    refine Jvm.RoadKit.acmp (g := (mkF m 2 #[.val (.ref oa), .val (.ref la), .unset] [(.ref la), (.ref oa)])) X0 hx rfl rfl rfl (pc0 := 2) (pc' := 7) (same := false) rfl (hb hby d10_2) rfl (decide_eq_false fun q => nab (Value.ref.inj q)) (by decide) (by decide) ?_
    refine XS.aloadN X0.here hx rfl (hb hby d10_7) rfl rfl ?_
    refine st1 _ ?_
    refine XS.ifNo X1.here hx rfl (hb hby d10_11) rfl (own_if (own_feq (a := (1 : Int32)) (b := (0 : Int32)) (by decide) (by decide) hc11_2).1) ?_
    refine XS.aloadN X1.here hx rfl (hb hby d10_14) rfl rfl ?_
    refine st3 _ ?_
    refine XS.astoreN X3.here hx rfl (hb hby d10_18) rfl rfl (l' := #[.val (.ref oa), .val (.ref la), .val (.ref la)]) rfl ?_
    refine st4 _ ?_
    refine XS.ifNo X4.here hx rfl (hb hby d10_22) rfl (own_if (own_feq (a := vcs) (b := (0 : Int32)) rfl (by decide) hc22_5).1) ?_
    refine XS.aloadN X4.here hx rfl (hb hby d10_25) rfl rfl ?_
    refine st6 _ ?_
    refine XS.aloadN X6.here hx rfl (hb hby d10_29) rfl rfl ?_
    refine st7 _ ?_
    refine XS.icmpYes X7.here hx rfl (pc0 := 33) (pc' := 54) rfl (hb hby d10_33) rfl (own_feq (a := (1 : Int32)) (b := (0 : Int32)) (by decide) (by decide) hc33_8).2 (by decide) (by decide) ?_
    refine XS.iconst X7.here hx rfl (hb hby d10_54) ?_
    exact retN X7 hx (t := .boolean) Bd.returns (by simp) (hb hby d10_55) hr
  · show Q_eqU Z _ _ _ _ _ _ _ _ _ _ _ _ h0 n0 _ T7.heap _
    rw [e7]
    exact ⟨_, rfl, rfl, N0, rfl⟩
theorem d10_36 : decode kc3 36 = .ok (.aload_n 0, 1) := by decide +kernel
theorem d10_37 : decode kc3 37 = .ok (.getfield 9, 3) := by decide +kernel
theorem d10_40 : decode kc3 40 = .ok (.aload_n 2, 1) := by decide +kernel
theorem d10_41 : decode kc3 41 = .ok (.getfield 9, 3) := by decide +kernel
theorem d10_44 : decode kc3 44 = .ok (.invokestatic 541, 3) := by decide +kernel
theorem d10_47 : decode kc3 47 = .ok (.ifCond .eq 7, 3) := by decide +kernel
theorem ef_rm_eqN (m : MethodId) (x0 : Addr) (x1 : Addr) : entryFrame m #[(.ref x0), (.ref x1)] 3 = mkF m 0 #[.val (.ref x0), .val (.ref x1), .unset] [] := by first | (simp [entryFrame, mkF, argsToLocals, Value.category]; done) | rfl
theorem pd_0 : parseMethodDescriptor "([B[B)Z" = some ⟨[(.array .byte), (.array .byte)], some .boolean⟩ := by decide +kernel
def Q_eqN (Z : State) (oa : Addr) (la : Addr) (vcs : Int32) (vf : Value) (ob : Addr) (kb : ClassId) (lb : Addr) (kl : ClassId) (zl : Int32) (vs : List Value) (zm : Int32) (ws_ : List Value) (h0 : Heap) (n0 : Nat) (v : Option Value) (h : Heap) (L : List Loc) : Prop := ∃ z : Int32, v = some (.int z) ∧ (z = (0 : Int32)) ∧ Fr n0 L ∧ h = h0
theorem rm_eqN (l : Launch) (Z : State) (a0 : Array Value) (hw : ∀ d ∈ tables_1, d.before a0 Z = true) (ws : List Jvm.Cond) (oa : Addr) (la : Addr) (vcs : Int32) (vf : Value) (ob : Addr) (kb : ClassId) (lb : Addr) (kl : ClassId) (zl : Int32) (vs : List Value) (zm : Int32) (ws_ : List Value) (h0 : Heap) (n0 : Nat) (Z0 : n0 ≤ h0.size) (Os : own_st Z h0 vcs vf) (Es : Exa Z h0 oa "java/lang/String") (Fc : Fld Z h0 oa "java/lang/String" "coder" "B" (.int 0)) (Fv : Fld Z h0 oa "java/lang/String" "value" "[B" (.ref ob)) (Vb : Arv Z h0 ob kb .byte zl vs (.int 0)) (El : Exa Z h0 la "java/lang/String") (Gc : Fld Z h0 la "java/lang/String" "coder" "B" (.int 0)) (Gv : Fld Z h0 la "java/lang/String" "value" "[B" (.ref lb)) (Vl : Arv Z h0 lb kl .byte zm ws_ (.int 0)) (hne : ¬ zl.toInt = zm.toInt) (nab : oa ≠ la) :
    MetFree l yn3 (head1 (Jvm.Cond.code yn3 kc3 3 (some .boolean) :: ws) ⟨1, 0, 0, 14⟩) (fun a U => a = #[(.ref oa), (.ref la)] ∧ Z.Warmed39 U.vm ∧ U.heap = h0) (fun _ _ _ _ _ => True) (fun _ U o U' => ∃ v L, o = .returned v ∧ Q_eqN Z oa la vcs vf ob kb lb kl zl vs zm ws_ h0 n0 v U'.heap L ∧ FrameEnd U o U' L 0 0) := by
  refine MetFree.of_bodySF (plainFor_of_name pn_1) hisR ?_
  intro p e s m args below meth c s₁ Bd hml0 hP hK
  obtain ⟨rfl, hZ, hh⟩ := hP
  have hx := Bd.exec
  have hby := Bd.bytes
  have hml : c.maxLocals = 3 := hml0
  have hown : s.vm.findClass "java/lang/String" = some m.cls := findClass_of_methodNamed Bd.named
  have hnm := (name_of_methodNamed Bd.named Bd.method).1
  have X0 : Stand p l e ⟨1, 0, 0, 14⟩ s m #[(.ref oa), (.ref la)] below meth c s₁ [] 0 0 := Stand.of_body Bd
  have e0 : s₁.heap = h0 := by rw [← hh, Bd.state]; rfl
  have N0 := Fr.nil n0
  obtain ⟨SS, hSS⟩ : ∃ S, S = s₁.setTop (entryFrame m #[(.ref oa), (.ref la)] 3) := ⟨_, rfl⟩
  have pre0 : oP p e below (s₁.setTop (mkF m 0 #[.val (.ref oa), .val (.ref la), .unset] [])) (SS) := by
    rw [hSS]; exact fun t k => castTop (ef_rm_eqN m oa la) k
  obtain ⟨T1, X1, e1, st1⟩ := instY X0 hx hZ hown (ow hw 53 rfl) e0 (Ins.self El) (g := (mkF m 8 #[.val (.ref oa), .val (.ref la), .unset] [(.ref la)])) rfl rfl (hb hby d10_8)
  have hc11_2 : ¬ ((1 : Int) = (0 : Int)) := by decide
  obtain ⟨T3, X3, e3, st3⟩ := castY X1 hx hZ hown (ow hw 53 rfl) e1 (Ins.self El) (g := (mkF m 15 #[.val (.ref oa), .val (.ref la), .unset] [(.ref la)])) rfl rfl (hb hby d10_15)
  obtain ⟨T4, X4, e4, st4⟩ := getS2 X3 hx hZ hown (host := "") (Or.inl (ow hw 36 rfl)) Via.refl e3 Os.1 (g := (mkF m 19 #[.val (.ref oa), .val (.ref la), .val (.ref la)] [])) rfl (hb hby d10_19)
  have hc22_5 : ¬ (vcs.toInt = (0 : Int)) := by (have q := Os.2.1; omega)
  obtain ⟨T6, X6, e6, st6⟩ := getF X4 hx hZ hown (host := "") (Or.inl (ow hw 26 rfl)) Via.refl e4 Fc (g := (mkF m 26 #[.val (.ref oa), .val (.ref la), .val (.ref la)] [(.ref oa)])) rfl rfl (hb hby d10_26)
  obtain ⟨T7, X7, e7, st7⟩ := getF X6 hx hZ hown (host := "") (Or.inl (ow hw 26 rfl)) Via.refl e6 Gc (g := (mkF m 30 #[.val (.ref oa), .val (.ref la), .val (.ref la)] [(.ref la), (.int 0)])) rfl rfl (hb hby d10_30)
  have hc33_8 : (0 : Int) = (0 : Int) := by decide
  obtain ⟨T9, X9, e9, st9⟩ := getF X7 hx hZ hown (host := "") (Or.inl (ow hw 25 rfl)) Via.refl e7 Fv (g := (mkF m 37 #[.val (.ref oa), .val (.ref la), .val (.ref la)] [(.ref oa)])) rfl rfl (hb hby d10_37)
  obtain ⟨T10, X10, e10, st10⟩ := getF X9 hx hZ hown (host := "") (Or.inl (ow hw 25 rfl)) Via.refl e9 Gv (g := (mkF m 41 #[.val (.ref oa), .val (.ref la), .val (.ref la)] [(.ref la), (.ref ob)])) rfl rfl (hb hby d10_41)
  obtain ⟨_, _, ⟨T11, L11, k11, n11⟩, -, X11, ⟨Lc11, hQ11, l11, y11, z11⟩, st11⟩ := Jvm.LawKit.callS X10 hx (y := yn2) hown (mvT hZ (ow hw 54 rfl)) (mvT hZ (ow hw 55 rfl)) (mvT hZ (ow hw 56 rfl)) (mvT hZ (ow hw 57 rfl)) (by decide) (backOf (W := 0) (rm_leN l Z a0 hw [] ob lb kb kl zl vs zm ws_ h0 n0 Z0 Vb Vl hne) hZ (ow hw 57 rfl) (ow hw 56 rfl) (by decide) (by decide)) (g := (mkF m 44 #[.val (.ref oa), .val (.ref la), .val (.ref la)] [(.ref lb), (.ref ob)])) rfl (by rw [hml]; rfl) (argsL := [(.ref ob), (.ref lb)]) (rest := []) (lenOf pd_0 rfl) rfl (by exact Nat.le_of_eq rfl) (hb hby d10_44) (fun _ _ => ⟨rfl, e10, (by decide : 0 + 0 ≤ _), (by decide : 0 + 0 ≤ _)⟩)
  dsimp only [Pt.U, Pt.locs, Pt.cells, Pt.slots] at X11 l11 y11 z11 st11 hQ11
  rw [l11, y11, z11] at X11
  obtain ⟨zq, rfl, hzq, N11q, e11⟩ := hQ11
  have N11 := Fr.app N0 N11q
  have pre12 : oP p e below (T11.setTop (mkF m 47 #[.val (.ref oa), .val (.ref la), .val (.ref la)] [(.int zq)])) (SS) := fun t kt => by
    refine pre0 _ ?_
    refine XS.aloadN X0.here hx rfl (hb hby d10_0) rfl rfl ?_
    refine XS.aloadN X0.here hx rfl (hb hby d10_1) rfl rfl ?_
    refine Jvm.RoadKit.acmp (g := (mkF m 2 #[.val (.ref oa), .val (.ref la), .unset] [(.ref la), (.ref oa)])) X0 hx rfl rfl rfl (pc0 := 2) (pc' := 7) (same := false) rfl (hb hby d10_2) rfl (decide_eq_false fun q => nab (Value.ref.inj q)) (by decide) (by decide) ?_
    refine XS.aloadN X0.here hx rfl (hb hby d10_7) rfl rfl ?_
    refine st1 _ ?_
    refine XS.ifNo X1.here hx rfl (hb hby d10_11) rfl (own_if (own_feq (a := (1 : Int32)) (b := (0 : Int32)) (by decide) (by decide) hc11_2).1) ?_
    refine XS.aloadN X1.here hx rfl (hb hby d10_14) rfl rfl ?_
    refine st3 _ ?_
    refine XS.astoreN X3.here hx rfl (hb hby d10_18) rfl rfl (l' := #[.val (.ref oa), .val (.ref la), .val (.ref la)]) rfl ?_
    refine st4 _ ?_
    refine XS.ifNo X4.here hx rfl (hb hby d10_22) rfl (own_if (own_feq (a := vcs) (b := (0 : Int32)) rfl (by decide) hc22_5).1) ?_
    refine XS.aloadN X4.here hx rfl (hb hby d10_25) rfl rfl ?_
    refine st6 _ ?_
    refine XS.aloadN X6.here hx rfl (hb hby d10_29) rfl rfl ?_
    refine st7 _ ?_
    refine XS.icmpNo X7.here hx rfl (hb hby d10_33) rfl (own_teq (a := (0 : Int32)) (b := (0 : Int32)) (by decide) (by decide) hc33_8).2 ?_
    refine XS.aloadN X7.here hx rfl (hb hby d10_36) rfl rfl ?_
    refine st9 _ ?_
    refine XS.aloadN X9.here hx rfl (hb hby d10_40) rfl rfl ?_
    show Steps p.tables e below (T9.setTop (mkF m 41 #[.val (.ref oa), .val (.ref la), .val (.ref la)] [(.ref la), (.ref ob)])) _
    refine st10 _ ?_
    refine st11 _ ?_
    exact kt
  subst hzq
  have pre13 : oP p e below (T11.setTop (mkF m 47 #[.val (.ref oa), .val (.ref la), .val (.ref la)] [(.int 0)])) (SS) := pre12
  have hc47_14 : (0 : Int) = (0 : Int) := by decide
  subst hSS
  obtain ⟨fs, hr, q1, q2, q3, q4⟩ := X11.leave (v := some (.int 0)) (fun h => by rw [Bd.returns] at h; cases h)
  refine ⟨_, _, pre13 _ ?_, q1, q2, _, _, rfl, ?_, ⟨_, rfl⟩, q3, q4.mono (by decide) (by decide)⟩
  · refine XS.ifYes X11.here hx rfl (pc0 := 47) (pc' := 54) rfl (hb hby d10_47) rfl (own_if (own_teq (a := (0 : Int32)) (b := (0 : Int32)) (by decide) (by decide) hc47_14).1) (by decide) (by decide) ?_
    refine XS.iconst X11.here hx rfl (hb hby d10_54) ?_
    exact retN X11 hx (t := .boolean) Bd.returns (by simp) (hb hby d10_55) hr
  · show Q_eqN Z _ _ _ _ _ _ _ _ _ _ _ _ h0 n0 _ T11.heap _
    rw [e11]
    exact ⟨_, rfl, rfl, N11, rfl⟩
theorem d10_5 : decode kc3 5 = .ok (.iconst 1, 1) := by decide +kernel
theorem d10_6 : decode kc3 6 = .ok (.ireturn, 1) := by decide +kernel
theorem d10_50 : decode kc3 50 = .ok (.iconst 1, 1) := by decide +kernel
theorem d10_51 : decode kc3 51 = .ok (.goto 4, 3) := by decide +kernel
theorem ef_rm_eqE1 (m : MethodId) (x0 : Addr) (x1 : Addr) : entryFrame m #[(.ref x0), (.ref x1)] 3 = mkF m 0 #[.val (.ref x0), .val (.ref x1), .unset] [] := by first | (simp [entryFrame, mkF, argsToLocals, Value.category]; done) | rfl
def Q_eqE1 (Z : State) (oa : Addr) (la : Addr) (vcs : Int32) (vf : Value) (ob : Addr) (kb : ClassId) (lb : Addr) (kl : ClassId) (bb0 : Int32) (h0 : Heap) (n0 : Nat) (v : Option Value) (h : Heap) (L : List Loc) : Prop := ∃ z : Int32, v = some (.int z) ∧ ((z = (1 : Int32) ∧ (bb0.toInt = 46)) ∨ (z = (0 : Int32) ∧ ¬ (bb0.toInt = 46))) ∧ Fr n0 L ∧ h = h0
theorem rm_eqE1 (l : Launch) (Z : State) (a0 : Array Value) (hw : ∀ d ∈ tables_1, d.before a0 Z = true) (ws : List Jvm.Cond) (oa : Addr) (la : Addr) (vcs : Int32) (vf : Value) (ob : Addr) (kb : ClassId) (lb : Addr) (kl : ClassId) (bb0 : Int32) (h0 : Heap) (n0 : Nat) (Z0 : n0 ≤ h0.size) (Os : own_st Z h0 vcs vf) (Es : Exa Z h0 oa "java/lang/String") (Fc : Fld Z h0 oa "java/lang/String" "coder" "B" (.int 0)) (Fv : Fld Z h0 oa "java/lang/String" "value" "[B" (.ref ob)) (Vb : Arv Z h0 ob kb .byte (1 : Int32) [(.int bb0)] (.int 0)) (El : Exa Z h0 la "java/lang/String") (Gc : Fld Z h0 la "java/lang/String" "coder" "B" (.int 0)) (Gv : Fld Z h0 la "java/lang/String" "value" "[B" (.ref lb)) (Vl : Arv Z h0 lb kl .byte (1 : Int32) [(.int 46)] (.int 0)) :
    MetFree l yn3 (head1 (Jvm.Cond.code yn3 kc3 3 (some .boolean) :: ws) ⟨1, 0, 0, 14⟩) (fun a U => a = #[(.ref oa), (.ref la)] ∧ Z.Warmed39 U.vm ∧ U.heap = h0) (fun _ _ _ _ _ => True) (fun _ U o U' => ∃ v L, o = .returned v ∧ Q_eqE1 Z oa la vcs vf ob kb lb kl bb0 h0 n0 v U'.heap L ∧ FrameEnd U o U' L 0 0) := by
  refine MetFree.of_bodySF (plainFor_of_name pn_1) hisR ?_
  intro p e s m args below meth c s₁ Bd hml0 hP hK
  obtain ⟨rfl, hZ, hh⟩ := hP
  have hx := Bd.exec
  have hby := Bd.bytes
  have hml : c.maxLocals = 3 := hml0
  have hown : s.vm.findClass "java/lang/String" = some m.cls := findClass_of_methodNamed Bd.named
  have hnm := (name_of_methodNamed Bd.named Bd.method).1
  have X0 : Stand p l e ⟨1, 0, 0, 14⟩ s m #[(.ref oa), (.ref la)] below meth c s₁ [] 0 0 := Stand.of_body Bd
  have e0 : s₁.heap = h0 := by rw [← hh, Bd.state]; rfl
  have N0 := Fr.nil n0
  obtain ⟨SS, hSS⟩ : ∃ S, S = s₁.setTop (entryFrame m #[(.ref oa), (.ref la)] 3) := ⟨_, rfl⟩
  have pre0 : oP p e below (s₁.setTop (mkF m 0 #[.val (.ref oa), .val (.ref la), .unset] [])) (SS) := by
    rw [hSS]; exact fun t k => castTop (ef_rm_eqE1 m oa la) k
  have pre1 : oP p e below (s₁.setTop (mkF m 2 #[.val (.ref oa), .val (.ref la), .unset] [(.ref la), (.ref oa)])) (SS) := fun t kt => by
    refine pre0 _ ?_
    refine XS.aloadN X0.here hx rfl (hb hby d10_0) rfl rfl ?_
    refine XS.aloadN X0.here hx rfl (hb hby d10_1) rfl rfl ?_
    exact kt
  by_cases hab : oa = la
  · have hsm := own_arv_inj Vb (show Arv Z h0 ob kl .byte (1 : Int32) [(.int 46)] (.int 0) by rw [own_same hab Fv Gv]; exact Vl)
    have hs0 : bb0.toInt = 46 := by rw [Value.int.inj (hsm.2 0 (by decide))]; decide
    subst hSS
    obtain ⟨fs, hr, q1, q2, q3, q4⟩ := X0.leave (v := some (.int 1)) (fun h => by rw [Bd.returns] at h; cases h)
    refine ⟨_, _, pre1 _ ?_, q1, q2, _, _, rfl, ?_, ⟨_, rfl⟩, q3, q4.mono (by decide) (by decide)⟩
    · refine Jvm.RoadKit.acmp (g := (mkF m 2 #[.val (.ref oa), .val (.ref la), .unset] [(.ref la), (.ref oa)])) X0 hx rfl rfl rfl (pc0 := 2) (pc' := 5) (same := true) rfl (hb hby d10_2) rfl (decide_eq_true (congrArg Value.ref hab)) (by decide) (by decide) ?_
      refine XS.iconst X0.here hx rfl (hb hby d10_5) ?_
      exact retN X0 hx (t := .boolean) Bd.returns (by simp) (hb hby d10_6) hr
    · show Q_eqE1 Z _ _ _ _ _ _ _ _ _ h0 n0 _ s₁.heap _
      rw [e0]
      exact ⟨_, rfl, Or.inl ⟨rfl, by omega⟩, N0, rfl⟩
  · have own_nab := True.intro
    obtain ⟨T2, X2, e2, st2⟩ := instY X0 hx hZ hown (ow hw 53 rfl) e0 (Ins.self El) (g := (mkF m 8 #[.val (.ref oa), .val (.ref la), .unset] [(.ref la)])) rfl rfl (hb hby d10_8)
    have hc11_3 : ¬ ((1 : Int) = (0 : Int)) := by decide
    obtain ⟨T4, X4, e4, st4⟩ := castY X2 hx hZ hown (ow hw 53 rfl) e2 (Ins.self El) (g := (mkF m 15 #[.val (.ref oa), .val (.ref la), .unset] [(.ref la)])) rfl rfl (hb hby d10_15)
    obtain ⟨T5, X5, e5, st5⟩ := getS2 X4 hx hZ hown (host := "") (Or.inl (ow hw 36 rfl)) Via.refl e4 Os.1 (g := (mkF m 19 #[.val (.ref oa), .val (.ref la), .val (.ref la)] [])) rfl (hb hby d10_19)
    have hc22_6 : ¬ (vcs.toInt = (0 : Int)) := by (have q := Os.2.1; omega)
    obtain ⟨T7, X7, e7, st7⟩ := getF X5 hx hZ hown (host := "") (Or.inl (ow hw 26 rfl)) Via.refl e5 Fc (g := (mkF m 26 #[.val (.ref oa), .val (.ref la), .val (.ref la)] [(.ref oa)])) rfl rfl (hb hby d10_26)
    obtain ⟨T8, X8, e8, st8⟩ := getF X7 hx hZ hown (host := "") (Or.inl (ow hw 26 rfl)) Via.refl e7 Gc (g := (mkF m 30 #[.val (.ref oa), .val (.ref la), .val (.ref la)] [(.ref la), (.int 0)])) rfl rfl (hb hby d10_30)
    have hc33_9 : (0 : Int) = (0 : Int) := by decide
    obtain ⟨T10, X10, e10, st10⟩ := getF X8 hx hZ hown (host := "") (Or.inl (ow hw 25 rfl)) Via.refl e8 Fv (g := (mkF m 37 #[.val (.ref oa), .val (.ref la), .val (.ref la)] [(.ref oa)])) rfl rfl (hb hby d10_37)
    obtain ⟨T11, X11, e11, st11⟩ := getF X10 hx hZ hown (host := "") (Or.inl (ow hw 25 rfl)) Via.refl e10 Gv (g := (mkF m 41 #[.val (.ref oa), .val (.ref la), .val (.ref la)] [(.ref la), (.ref ob)])) rfl rfl (hb hby d10_41)
    obtain ⟨_, _, ⟨T12, L12, k12, n12⟩, -, X12, ⟨Lc12, hQ12, l12, y12, z12⟩, st12⟩ := Jvm.LawKit.callS X11 hx (y := yn2) hown (mvT hZ (ow hw 54 rfl)) (mvT hZ (ow hw 55 rfl)) (mvT hZ (ow hw 56 rfl)) (mvT hZ (ow hw 57 rfl)) (by decide) (backOf (W := 0) (rm_leE1 l Z a0 hw [] ob lb kb kl bb0 h0 n0 Z0 Vb Vl) hZ (ow hw 57 rfl) (ow hw 56 rfl) (by decide) (by decide)) (g := (mkF m 44 #[.val (.ref oa), .val (.ref la), .val (.ref la)] [(.ref lb), (.ref ob)])) rfl (by rw [hml]; rfl) (argsL := [(.ref ob), (.ref lb)]) (rest := []) (lenOf pd_0 rfl) rfl (by exact Nat.le_of_eq rfl) (hb hby d10_44) (fun _ _ => ⟨rfl, e11, (by decide : 0 + 0 ≤ _), (by decide : 0 + 0 ≤ _)⟩)
    dsimp only [Pt.U, Pt.locs, Pt.cells, Pt.slots] at X12 l12 y12 z12 st12 hQ12
    rw [l12, y12, z12] at X12
    obtain ⟨zq, rfl, hzq, N12q, e12⟩ := hQ12
    have N12 := Fr.app N0 N12q
    have pre13 : oP p e below (T12.setTop (mkF m 47 #[.val (.ref oa), .val (.ref la), .val (.ref la)] [(.int zq)])) (SS) := fun t kt => by
      refine pre1 _ ?_
      refine Jvm.RoadKit.acmp (g := (mkF m 2 #[.val (.ref oa), .val (.ref la), .unset] [(.ref la), (.ref oa)])) X0 hx rfl rfl rfl (pc0 := 2) (pc' := 7) (same := false) rfl (hb hby d10_2) rfl (decide_eq_false fun q => hab (Value.ref.inj q)) (by decide) (by decide) ?_
      refine XS.aloadN X0.here hx rfl (hb hby d10_7) rfl rfl ?_
      refine st2 _ ?_
      refine XS.ifNo X2.here hx rfl (hb hby d10_11) rfl (own_if (own_feq (a := (1 : Int32)) (b := (0 : Int32)) (by decide) (by decide) hc11_3).1) ?_
      refine XS.aloadN X2.here hx rfl (hb hby d10_14) rfl rfl ?_
      refine st4 _ ?_
      refine XS.astoreN X4.here hx rfl (hb hby d10_18) rfl rfl (l' := #[.val (.ref oa), .val (.ref la), .val (.ref la)]) rfl ?_
      refine st5 _ ?_
      refine XS.ifNo X5.here hx rfl (hb hby d10_22) rfl (own_if (own_feq (a := vcs) (b := (0 : Int32)) rfl (by decide) hc22_6).1) ?_
      refine XS.aloadN X5.here hx rfl (hb hby d10_25) rfl rfl ?_
      refine st7 _ ?_
      refine XS.aloadN X7.here hx rfl (hb hby d10_29) rfl rfl ?_
      refine st8 _ ?_
      refine XS.icmpNo X8.here hx rfl (hb hby d10_33) rfl (own_teq (a := (0 : Int32)) (b := (0 : Int32)) (by decide) (by decide) hc33_9).2 ?_
      refine XS.aloadN X8.here hx rfl (hb hby d10_36) rfl rfl ?_
      refine st10 _ ?_
      refine XS.aloadN X10.here hx rfl (hb hby d10_40) rfl rfl ?_
      show Steps p.tables e below (T10.setTop (mkF m 41 #[.val (.ref oa), .val (.ref la), .val (.ref la)] [(.ref la), (.ref ob)])) _
      refine st11 _ ?_
      refine st12 _ ?_
      exact kt
    rcases hzq with ⟨rfl, hd⟩ | ⟨rfl, hd⟩
    · have pre14 : oP p e below (T12.setTop (mkF m 47 #[.val (.ref oa), .val (.ref la), .val (.ref la)] [(.int 1)])) (SS) := pre13
      have hc47_15 : ¬ ((1 : Int) = (0 : Int)) := by decide
      subst hSS
      obtain ⟨fs, hr, q1, q2, q3, q4⟩ := X12.leave (v := some (.int 1)) (fun h => by rw [Bd.returns] at h; cases h)
      refine ⟨_, _, pre14 _ ?_, q1, q2, _, _, rfl, ?_, ⟨_, rfl⟩, q3, q4.mono (by decide) (by decide)⟩
      · refine XS.ifNo X12.here hx rfl (hb hby d10_47) rfl (own_if (own_feq (a := (1 : Int32)) (b := (0 : Int32)) (by decide) (by decide) hc47_15).1) ?_
        refine XS.iconst X12.here hx rfl (hb hby d10_50) ?_
        refine XS.goto X12.here hx rfl (pc0 := 51) (pc' := 55) rfl (hb hby d10_51) (by decide) (by decide) ?_
        exact retN X12 hx (t := .boolean) Bd.returns (by simp) (hb hby d10_55) hr
      · show Q_eqE1 Z _ _ _ _ _ _ _ _ _ h0 n0 _ T12.heap _
        rw [e12]
        exact ⟨_, rfl, Or.inl ⟨rfl, by omega⟩, N12, rfl⟩
    · have pre16 : oP p e below (T12.setTop (mkF m 47 #[.val (.ref oa), .val (.ref la), .val (.ref la)] [(.int 0)])) (SS) := pre13
      have hc47_17 : (0 : Int) = (0 : Int) := by decide
      subst hSS
      obtain ⟨fs, hr, q1, q2, q3, q4⟩ := X12.leave (v := some (.int 0)) (fun h => by rw [Bd.returns] at h; cases h)
      refine ⟨_, _, pre16 _ ?_, q1, q2, _, _, rfl, ?_, ⟨_, rfl⟩, q3, q4.mono (by decide) (by decide)⟩
      · refine XS.ifYes X12.here hx rfl (pc0 := 47) (pc' := 54) rfl (hb hby d10_47) rfl (own_if (own_teq (a := (0 : Int32)) (b := (0 : Int32)) (by decide) (by decide) hc47_17).1) (by decide) (by decide) ?_
        refine XS.iconst X12.here hx rfl (hb hby d10_54) ?_
        exact retN X12 hx (t := .boolean) Bd.returns (by simp) (hb hby d10_55) hr
      · show Q_eqE1 Z _ _ _ _ _ _ _ _ _ h0 n0 _ T12.heap _
        rw [e12]
        exact ⟨_, rfl, Or.inr ⟨rfl, by omega⟩, N12, rfl⟩
theorem ef_rm_eqE2 (m : MethodId) (x0 : Addr) (x1 : Addr) : entryFrame m #[(.ref x0), (.ref x1)] 3 = mkF m 0 #[.val (.ref x0), .val (.ref x1), .unset] [] := by first | (simp [entryFrame, mkF, argsToLocals, Value.category]; done) | rfl
def Q_eqE2 (Z : State) (oa : Addr) (la : Addr) (vcs : Int32) (vf : Value) (ob : Addr) (kb : ClassId) (lb : Addr) (kl : ClassId) (bb0 : Int32) (bb1 : Int32) (h0 : Heap) (n0 : Nat) (v : Option Value) (h : Heap) (L : List Loc) : Prop := ∃ z : Int32, v = some (.int z) ∧ ((z = (1 : Int32) ∧ (bb0.toInt = 46 ∧ bb1.toInt = 46)) ∨ (z = (0 : Int32) ∧ ¬ (bb0.toInt = 46 ∧ bb1.toInt = 46))) ∧ Fr n0 L ∧ h = h0
theorem rm_eqE2 (l : Launch) (Z : State) (a0 : Array Value) (hw : ∀ d ∈ tables_1, d.before a0 Z = true) (ws : List Jvm.Cond) (oa : Addr) (la : Addr) (vcs : Int32) (vf : Value) (ob : Addr) (kb : ClassId) (lb : Addr) (kl : ClassId) (bb0 : Int32) (bb1 : Int32) (h0 : Heap) (n0 : Nat) (Z0 : n0 ≤ h0.size) (Os : own_st Z h0 vcs vf) (Es : Exa Z h0 oa "java/lang/String") (Fc : Fld Z h0 oa "java/lang/String" "coder" "B" (.int 0)) (Fv : Fld Z h0 oa "java/lang/String" "value" "[B" (.ref ob)) (Vb : Arv Z h0 ob kb .byte (2 : Int32) [(.int bb0), (.int bb1)] (.int 0)) (El : Exa Z h0 la "java/lang/String") (Gc : Fld Z h0 la "java/lang/String" "coder" "B" (.int 0)) (Gv : Fld Z h0 la "java/lang/String" "value" "[B" (.ref lb)) (Vl : Arv Z h0 lb kl .byte (2 : Int32) [(.int 46), (.int 46)] (.int 0)) :
    MetFree l yn3 (head1 (Jvm.Cond.code yn3 kc3 3 (some .boolean) :: ws) ⟨1, 0, 0, 14⟩) (fun a U => a = #[(.ref oa), (.ref la)] ∧ Z.Warmed39 U.vm ∧ U.heap = h0) (fun _ _ _ _ _ => True) (fun _ U o U' => ∃ v L, o = .returned v ∧ Q_eqE2 Z oa la vcs vf ob kb lb kl bb0 bb1 h0 n0 v U'.heap L ∧ FrameEnd U o U' L 0 0) := by
  refine MetFree.of_bodySF (plainFor_of_name pn_1) hisR ?_
  intro p e s m args below meth c s₁ Bd hml0 hP hK
  obtain ⟨rfl, hZ, hh⟩ := hP
  have hx := Bd.exec
  have hby := Bd.bytes
  have hml : c.maxLocals = 3 := hml0
  have hown : s.vm.findClass "java/lang/String" = some m.cls := findClass_of_methodNamed Bd.named
  have hnm := (name_of_methodNamed Bd.named Bd.method).1
  have X0 : Stand p l e ⟨1, 0, 0, 14⟩ s m #[(.ref oa), (.ref la)] below meth c s₁ [] 0 0 := Stand.of_body Bd
  have e0 : s₁.heap = h0 := by rw [← hh, Bd.state]; rfl
  have N0 := Fr.nil n0
  obtain ⟨SS, hSS⟩ : ∃ S, S = s₁.setTop (entryFrame m #[(.ref oa), (.ref la)] 3) := ⟨_, rfl⟩
  have pre0 : oP p e below (s₁.setTop (mkF m 0 #[.val (.ref oa), .val (.ref la), .unset] [])) (SS) := by
    rw [hSS]; exact fun t k => castTop (ef_rm_eqE2 m oa la) k
  have pre1 : oP p e below (s₁.setTop (mkF m 2 #[.val (.ref oa), .val (.ref la), .unset] [(.ref la), (.ref oa)])) (SS) := fun t kt => by
    refine pre0 _ ?_
    refine XS.aloadN X0.here hx rfl (hb hby d10_0) rfl rfl ?_
    refine XS.aloadN X0.here hx rfl (hb hby d10_1) rfl rfl ?_
    exact kt
  by_cases hab : oa = la
  · have hsm := own_arv_inj Vb (show Arv Z h0 ob kl .byte (2 : Int32) [(.int 46), (.int 46)] (.int 0) by rw [own_same hab Fv Gv]; exact Vl)
    have hs0 : bb0.toInt = 46 := by rw [Value.int.inj (hsm.2 0 (by decide))]; decide
    have hs1 : bb1.toInt = 46 := by rw [Value.int.inj (hsm.2 1 (by decide))]; decide
    subst hSS
    obtain ⟨fs, hr, q1, q2, q3, q4⟩ := X0.leave (v := some (.int 1)) (fun h => by rw [Bd.returns] at h; cases h)
    refine ⟨_, _, pre1 _ ?_, q1, q2, _, _, rfl, ?_, ⟨_, rfl⟩, q3, q4.mono (by decide) (by decide)⟩
    · refine Jvm.RoadKit.acmp (g := (mkF m 2 #[.val (.ref oa), .val (.ref la), .unset] [(.ref la), (.ref oa)])) X0 hx rfl rfl rfl (pc0 := 2) (pc' := 5) (same := true) rfl (hb hby d10_2) rfl (decide_eq_true (congrArg Value.ref hab)) (by decide) (by decide) ?_
      refine XS.iconst X0.here hx rfl (hb hby d10_5) ?_
      exact retN X0 hx (t := .boolean) Bd.returns (by simp) (hb hby d10_6) hr
    · show Q_eqE2 Z _ _ _ _ _ _ _ _ _ _ h0 n0 _ s₁.heap _
      rw [e0]
      exact ⟨_, rfl, Or.inl ⟨rfl, by omega⟩, N0, rfl⟩
  · have own_nab := True.intro
    obtain ⟨T2, X2, e2, st2⟩ := instY X0 hx hZ hown (ow hw 53 rfl) e0 (Ins.self El) (g := (mkF m 8 #[.val (.ref oa), .val (.ref la), .unset] [(.ref la)])) rfl rfl (hb hby d10_8)
    have hc11_3 : ¬ ((1 : Int) = (0 : Int)) := by decide
    obtain ⟨T4, X4, e4, st4⟩ := castY X2 hx hZ hown (ow hw 53 rfl) e2 (Ins.self El) (g := (mkF m 15 #[.val (.ref oa), .val (.ref la), .unset] [(.ref la)])) rfl rfl (hb hby d10_15)
    obtain ⟨T5, X5, e5, st5⟩ := getS2 X4 hx hZ hown (host := "") (Or.inl (ow hw 36 rfl)) Via.refl e4 Os.1 (g := (mkF m 19 #[.val (.ref oa), .val (.ref la), .val (.ref la)] [])) rfl (hb hby d10_19)
    have hc22_6 : ¬ (vcs.toInt = (0 : Int)) := by (have q := Os.2.1; omega)
    obtain ⟨T7, X7, e7, st7⟩ := getF X5 hx hZ hown (host := "") (Or.inl (ow hw 26 rfl)) Via.refl e5 Fc (g := (mkF m 26 #[.val (.ref oa), .val (.ref la), .val (.ref la)] [(.ref oa)])) rfl rfl (hb hby d10_26)
    obtain ⟨T8, X8, e8, st8⟩ := getF X7 hx hZ hown (host := "") (Or.inl (ow hw 26 rfl)) Via.refl e7 Gc (g := (mkF m 30 #[.val (.ref oa), .val (.ref la), .val (.ref la)] [(.ref la), (.int 0)])) rfl rfl (hb hby d10_30)
    have hc33_9 : (0 : Int) = (0 : Int) := by decide
    obtain ⟨T10, X10, e10, st10⟩ := getF X8 hx hZ hown (host := "") (Or.inl (ow hw 25 rfl)) Via.refl e8 Fv (g := (mkF m 37 #[.val (.ref oa), .val (.ref la), .val (.ref la)] [(.ref oa)])) rfl rfl (hb hby d10_37)
    obtain ⟨T11, X11, e11, st11⟩ := getF X10 hx hZ hown (host := "") (Or.inl (ow hw 25 rfl)) Via.refl e10 Gv (g := (mkF m 41 #[.val (.ref oa), .val (.ref la), .val (.ref la)] [(.ref la), (.ref ob)])) rfl rfl (hb hby d10_41)
    obtain ⟨_, _, ⟨T12, L12, k12, n12⟩, -, X12, ⟨Lc12, hQ12, l12, y12, z12⟩, st12⟩ := Jvm.LawKit.callS X11 hx (y := yn2) hown (mvT hZ (ow hw 54 rfl)) (mvT hZ (ow hw 55 rfl)) (mvT hZ (ow hw 56 rfl)) (mvT hZ (ow hw 57 rfl)) (by decide) (backOf (W := 0) (rm_leE2 l Z a0 hw [] ob lb kb kl bb0 bb1 h0 n0 Z0 Vb Vl) hZ (ow hw 57 rfl) (ow hw 56 rfl) (by decide) (by decide)) (g := (mkF m 44 #[.val (.ref oa), .val (.ref la), .val (.ref la)] [(.ref lb), (.ref ob)])) rfl (by rw [hml]; rfl) (argsL := [(.ref ob), (.ref lb)]) (rest := []) (lenOf pd_0 rfl) rfl (by exact Nat.le_of_eq rfl) (hb hby d10_44) (fun _ _ => ⟨rfl, e11, (by decide : 0 + 0 ≤ _), (by decide : 0 + 0 ≤ _)⟩)
    dsimp only [Pt.U, Pt.locs, Pt.cells, Pt.slots] at X12 l12 y12 z12 st12 hQ12
    rw [l12, y12, z12] at X12
    obtain ⟨zq, rfl, hzq, N12q, e12⟩ := hQ12
    have N12 := Fr.app N0 N12q
    have pre13 : oP p e below (T12.setTop (mkF m 47 #[.val (.ref oa), .val (.ref la), .val (.ref la)] [(.int zq)])) (SS) := fun t kt => by
      refine pre1 _ ?_
      refine Jvm.RoadKit.acmp (g := (mkF m 2 #[.val (.ref oa), .val (.ref la), .unset] [(.ref la), (.ref oa)])) X0 hx rfl rfl rfl (pc0 := 2) (pc' := 7) (same := false) rfl (hb hby d10_2) rfl (decide_eq_false fun q => hab (Value.ref.inj q)) (by decide) (by decide) ?_
      refine XS.aloadN X0.here hx rfl (hb hby d10_7) rfl rfl ?_
      refine st2 _ ?_
      refine XS.ifNo X2.here hx rfl (hb hby d10_11) rfl (own_if (own_feq (a := (1 : Int32)) (b := (0 : Int32)) (by decide) (by decide) hc11_3).1) ?_
      refine XS.aloadN X2.here hx rfl (hb hby d10_14) rfl rfl ?_
      refine st4 _ ?_
      refine XS.astoreN X4.here hx rfl (hb hby d10_18) rfl rfl (l' := #[.val (.ref oa), .val (.ref la), .val (.ref la)]) rfl ?_
      refine st5 _ ?_
      refine XS.ifNo X5.here hx rfl (hb hby d10_22) rfl (own_if (own_feq (a := vcs) (b := (0 : Int32)) rfl (by decide) hc22_6).1) ?_
      refine XS.aloadN X5.here hx rfl (hb hby d10_25) rfl rfl ?_
      refine st7 _ ?_
      refine XS.aloadN X7.here hx rfl (hb hby d10_29) rfl rfl ?_
      refine st8 _ ?_
      refine XS.icmpNo X8.here hx rfl (hb hby d10_33) rfl (own_teq (a := (0 : Int32)) (b := (0 : Int32)) (by decide) (by decide) hc33_9).2 ?_
      refine XS.aloadN X8.here hx rfl (hb hby d10_36) rfl rfl ?_
      refine st10 _ ?_
      refine XS.aloadN X10.here hx rfl (hb hby d10_40) rfl rfl ?_
      show Steps p.tables e below (T10.setTop (mkF m 41 #[.val (.ref oa), .val (.ref la), .val (.ref la)] [(.ref la), (.ref ob)])) _
      refine st11 _ ?_
      refine st12 _ ?_
      exact kt
    rcases hzq with ⟨rfl, hd⟩ | ⟨rfl, hd⟩
    · have pre14 : oP p e below (T12.setTop (mkF m 47 #[.val (.ref oa), .val (.ref la), .val (.ref la)] [(.int 1)])) (SS) := pre13
      have hc47_15 : ¬ ((1 : Int) = (0 : Int)) := by decide
      subst hSS
      obtain ⟨fs, hr, q1, q2, q3, q4⟩ := X12.leave (v := some (.int 1)) (fun h => by rw [Bd.returns] at h; cases h)
      refine ⟨_, _, pre14 _ ?_, q1, q2, _, _, rfl, ?_, ⟨_, rfl⟩, q3, q4.mono (by decide) (by decide)⟩
      · refine XS.ifNo X12.here hx rfl (hb hby d10_47) rfl (own_if (own_feq (a := (1 : Int32)) (b := (0 : Int32)) (by decide) (by decide) hc47_15).1) ?_
        refine XS.iconst X12.here hx rfl (hb hby d10_50) ?_
        refine XS.goto X12.here hx rfl (pc0 := 51) (pc' := 55) rfl (hb hby d10_51) (by decide) (by decide) ?_
        exact retN X12 hx (t := .boolean) Bd.returns (by simp) (hb hby d10_55) hr
      · show Q_eqE2 Z _ _ _ _ _ _ _ _ _ _ h0 n0 _ T12.heap _
        rw [e12]
        exact ⟨_, rfl, Or.inl ⟨rfl, by omega⟩, N12, rfl⟩
    · have pre16 : oP p e below (T12.setTop (mkF m 47 #[.val (.ref oa), .val (.ref la), .val (.ref la)] [(.int 0)])) (SS) := pre13
      have hc47_17 : (0 : Int) = (0 : Int) := by decide
      subst hSS
      obtain ⟨fs, hr, q1, q2, q3, q4⟩ := X12.leave (v := some (.int 0)) (fun h => by rw [Bd.returns] at h; cases h)
      refine ⟨_, _, pre16 _ ?_, q1, q2, _, _, rfl, ?_, ⟨_, rfl⟩, q3, q4.mono (by decide) (by decide)⟩
      · refine XS.ifYes X12.here hx rfl (pc0 := 47) (pc' := 54) rfl (hb hby d10_47) rfl (own_if (own_teq (a := (0 : Int32)) (b := (0 : Int32)) (by decide) (by decide) hc47_17).1) (by decide) (by decide) ?_
        refine XS.iconst X12.here hx rfl (hb hby d10_54) ?_
        exact retN X12 hx (t := .boolean) Bd.returns (by simp) (hb hby d10_55) hr
      · show Q_eqE2 Z _ _ _ _ _ _ _ _ _ _ h0 n0 _ T12.heap _
        rw [e12]
        exact ⟨_, rfl, Or.inr ⟨rfl, by omega⟩, N12, rfl⟩
theorem d18_0 : decode kc4 0 = .ok (.iload_n 0, 1) := by decide +kernel
theorem d18_1 : decode kc4 1 = .ok (.ifCond .lt 14, 3) := by decide +kernel
theorem d18_4 : decode kc4 4 = .ok (.iload_n 0, 1) := by decide +kernel
theorem d18_5 : decode kc4 5 = .ok (.sipush 255, 3) := by decide +kernel
theorem d18_8 : decode kc4 8 = .ok (.if_icmp .gt 7, 3) := by decide +kernel
theorem d18_11 : decode kc4 11 = .ok (.iconst 1, 1) := by decide +kernel
theorem d18_12 : decode kc4 12 = .ok (.goto 4, 3) := by decide +kernel
theorem d18_16 : decode kc4 16 = .ok (.ireturn, 1) := by decide +kernel
theorem ef_rm18 (m : MethodId)  : entryFrame m #[(.int 0)] 1 = mkF m 0 #[.val (.int 0)] [] := by first | (simp [entryFrame, mkF, argsToLocals, Value.category]; done) | rfl
def Q18 (Z : State)  (h0 : Heap) (n0 : Nat) (v : Option Value) (h : Heap) (L : List Loc) : Prop := ∃ z : Int32, v = some (.int z) ∧ (z = (1 : Int32)) ∧ Fr n0 L ∧ h = h0
theorem rm18 (l : Launch) (Z : State) (a0 : Array Value) (hw : ∀ d ∈ tables_1, d.before a0 Z = true) (ws : List Jvm.Cond)  (h0 : Heap) (n0 : Nat) (Z0 : n0 ≤ h0.size) :
    MetFree l yn4 (head1 (Jvm.Cond.code yn4 kc4 1 (some .boolean) :: ws) ⟨0, 0, 0, 0⟩) (fun a U => a = #[(.int 0)] ∧ Z.Warmed39 U.vm ∧ U.heap = h0) (fun _ _ _ _ _ => True) (fun _ U o U' => ∃ v L, o = .returned v ∧ Q18 Z  h0 n0 v U'.heap L ∧ FrameEnd U o U' L 0 0) := by
  refine MetFree.of_bodySF (plainFor_of_name pn_2) hisR ?_
  intro p e s m args below meth c s₁ Bd hml0 hP hK
  obtain ⟨rfl, hZ, hh⟩ := hP
  have hx := Bd.exec
  have hby := Bd.bytes
  have hml : c.maxLocals = 1 := hml0
  have hown : s.vm.findClass "java/lang/StringLatin1" = some m.cls := findClass_of_methodNamed Bd.named
  have hnm := (name_of_methodNamed Bd.named Bd.method).1
  have X0 : Stand p l e ⟨0, 0, 0, 0⟩ s m #[(.int 0)] below meth c s₁ [] 0 0 := Stand.of_body Bd
  have e0 : s₁.heap = h0 := by rw [← hh, Bd.state]; rfl
  have N0 := Fr.nil n0
  obtain ⟨SS, hSS⟩ : ∃ S, S = s₁.setTop (entryFrame m #[(.int 0)] 1) := ⟨_, rfl⟩
  have pre0 : oP p e below (s₁.setTop (mkF m 0 #[.val (.int 0)] [])) (SS) := by
    rw [hSS]; exact fun t k => castTop (ef_rm18 m ) k
  have hc1_1 : ¬ ((0 : Int) < (0 : Int)) := by decide
  have hc8_2 : ¬ ((255 : Int) < (0 : Int)) := by decide
  subst hSS
  obtain ⟨fs, hr, q1, q2, q3, q4⟩ := X0.leave (v := some (.int 1)) (fun h => by rw [Bd.returns] at h; cases h)
  refine ⟨_, _, pre0 _ ?_, q1, q2, _, _, rfl, ?_, ⟨_, rfl⟩, q3, q4.mono (by decide) (by decide)⟩
  · refine XS.iloadN X0.here hx rfl (hb hby d18_0) rfl ?_
    refine XS.ifNo X0.here hx rfl (hb hby d18_1) rfl (own_if (own_flt (a := (0 : Int32)) (b := (0 : Int32)) (by decide) (by decide) hc1_1).1) ?_
    refine XS.iloadN X0.here hx rfl (hb hby d18_4) rfl ?_
    refine XS.sipush X0.here hx rfl (hb hby d18_5) ?_
    refine XS.icmpNo X0.here hx rfl (hb hby d18_8) rfl (own_flt (a := (255 : Int32)) (b := (0 : Int32)) (by decide) (by decide) hc8_2).2.2.1 ?_
    refine XS.iconst X0.here hx rfl (hb hby d18_11) ?_
    refine XS.goto X0.here hx rfl (pc0 := 12) (pc' := 16) rfl (hb hby d18_12) (by decide) (by decide) ?_
    exact retN X0 hx (t := .boolean) Bd.returns (by simp) (hb hby d18_16) hr
  · show Q18 Z  h0 n0 _ s₁.heap _
    rw [e0]
    exact ⟨_, rfl, rfl, N0, rfl⟩
theorem d19_0 : decode kc5 0 = .ok (.iload_n 0, 1) := by decide +kernel
theorem d19_1 : decode kc5 1 = .ok (.iload_n 1, 1) := by decide +kernel
theorem d19_2 : decode kc5 2 = .ok (.if_icmp .lt 7, 3) := by decide +kernel
theorem d19_5 : decode kc5 5 = .ok (.iload_n 0, 1) := by decide +kernel
theorem d19_6 : decode kc5 6 = .ok (.goto 4, 3) := by decide +kernel
theorem d19_10 : decode kc5 10 = .ok (.ireturn, 1) := by decide +kernel
theorem ef_rm19 (m : MethodId)  : entryFrame m #[(.int 0), (.int 0)] 2 = mkF m 0 #[.val (.int 0), .val (.int 0)] [] := by first | (simp [entryFrame, mkF, argsToLocals, Value.category]; done) | rfl
def Q19 (Z : State)  (h0 : Heap) (n0 : Nat) (v : Option Value) (h : Heap) (L : List Loc) : Prop := ∃ z : Int32, v = some (.int z) ∧ (z = (0 : Int32)) ∧ Fr n0 L ∧ h = h0
theorem rm19 (l : Launch) (Z : State) (a0 : Array Value) (hw : ∀ d ∈ tables_1, d.before a0 Z = true) (ws : List Jvm.Cond)  (h0 : Heap) (n0 : Nat) (Z0 : n0 ≤ h0.size) :
    MetFree l yn5 (head1 (Jvm.Cond.code yn5 kc5 2 (some .int) :: ws) ⟨0, 0, 0, 0⟩) (fun a U => a = #[(.int 0), (.int 0)] ∧ Z.Warmed39 U.vm ∧ U.heap = h0) (fun _ _ _ _ _ => True) (fun _ U o U' => ∃ v L, o = .returned v ∧ Q19 Z  h0 n0 v U'.heap L ∧ FrameEnd U o U' L 0 0) := by
  refine MetFree.of_bodySF (Jvm.Free.JP.mathPlain rfl (by decide +kernel)) hisR ?_
  intro p e s m args below meth c s₁ Bd hml0 hP hK
  obtain ⟨rfl, hZ, hh⟩ := hP
  have hx := Bd.exec
  have hby := Bd.bytes
  have hml : c.maxLocals = 2 := hml0
  have hown : s.vm.findClass "java/lang/Math" = some m.cls := findClass_of_methodNamed Bd.named
  have hnm := (name_of_methodNamed Bd.named Bd.method).1
  have X0 : Stand p l e ⟨0, 0, 0, 0⟩ s m #[(.int 0), (.int 0)] below meth c s₁ [] 0 0 := Stand.of_body Bd
  have e0 : s₁.heap = h0 := by rw [← hh, Bd.state]; rfl
  have N0 := Fr.nil n0
  obtain ⟨SS, hSS⟩ : ∃ S, S = s₁.setTop (entryFrame m #[(.int 0), (.int 0)] 2) := ⟨_, rfl⟩
  have pre0 : oP p e below (s₁.setTop (mkF m 0 #[.val (.int 0), .val (.int 0)] [])) (SS) := by
    rw [hSS]; exact fun t k => castTop (ef_rm19 m ) k
  have hc2_1 : ¬ ((0 : Int) < (0 : Int)) := by decide
  subst hSS
  obtain ⟨fs, hr, q1, q2, q3, q4⟩ := X0.leave (v := some (.int 0)) (fun h => by rw [Bd.returns] at h; cases h)
  refine ⟨_, _, pre0 _ ?_, q1, q2, _, _, rfl, ?_, ⟨_, rfl⟩, q3, q4.mono (by decide) (by decide)⟩
  · refine XS.iloadN X0.here hx rfl (hb hby d19_0) rfl ?_
    refine XS.iloadN X0.here hx rfl (hb hby d19_1) rfl ?_
    refine XS.icmpNo X0.here hx rfl (hb hby d19_2) rfl (own_flt (a := (0 : Int32)) (b := (0 : Int32)) (by decide) (by decide) hc2_1).1 ?_
    refine XS.iloadN X0.here hx rfl (hb hby d19_5) rfl ?_
    refine XS.goto X0.here hx rfl (pc0 := 6) (pc' := 10) rfl (hb hby d19_6) (by decide) (by decide) ?_
    exact retI X0 hx Bd.returns (hb hby d19_10) hr
  · show Q19 Z  h0 n0 _ s₁.heap _
    rw [e0]
    exact ⟨_, rfl, rfl, N0, rfl⟩
theorem d20_0 : decode kc6 0 = .ok (.iload_n 0, 1) := by decide +kernel
theorem d20_1 : decode kc6 1 = .ok (.iload_n 1, 1) := by decide +kernel
theorem d20_2 : decode kc6 2 = .ok (.if_icmp .gt 7, 3) := by decide +kernel
theorem d20_5 : decode kc6 5 = .ok (.iload_n 0, 1) := by decide +kernel
theorem d20_6 : decode kc6 6 = .ok (.goto 4, 3) := by decide +kernel
theorem d20_10 : decode kc6 10 = .ok (.ireturn, 1) := by decide +kernel
theorem ef_rm20 (m : MethodId) (x0 : Int32) (x1 : Int32) : entryFrame m #[(.int x0), (.int x1)] 2 = mkF m 0 #[.val (.int x0), .val (.int x1)] [] := by first | (simp [entryFrame, mkF, argsToLocals, Value.category]; done) | rfl
def Q20 (Z : State) (vn : Int32) (vm : Int32) (h0 : Heap) (n0 : Nat) (v : Option Value) (h : Heap) (L : List Loc) : Prop := ∃ z : Int32, v = some (.int z) ∧ (z = vn) ∧ Fr n0 L ∧ h = h0
theorem rm20 (l : Launch) (Z : State) (a0 : Array Value) (hw : ∀ d ∈ tables_1, d.before a0 Z = true) (ws : List Jvm.Cond) (vn : Int32) (vm : Int32) (h0 : Heap) (n0 : Nat) (Z0 : n0 ≤ h0.size) (e1 : vn.toInt = vm.toInt) :
    MetFree l yn6 (head1 (Jvm.Cond.code yn6 kc6 2 (some .int) :: ws) ⟨0, 0, 0, 0⟩) (fun a U => a = #[(.int vn), (.int vm)] ∧ Z.Warmed39 U.vm ∧ U.heap = h0) (fun _ _ _ _ _ => True) (fun _ U o U' => ∃ v L, o = .returned v ∧ Q20 Z vn vm h0 n0 v U'.heap L ∧ FrameEnd U o U' L 0 0) := by
  refine MetFree.of_bodySF (Jvm.Free.JP.mathPlain rfl (by decide +kernel)) hisR ?_
  intro p e s m args below meth c s₁ Bd hml0 hP hK
  obtain ⟨rfl, hZ, hh⟩ := hP
  have hx := Bd.exec
  have hby := Bd.bytes
  have hml : c.maxLocals = 2 := hml0
  have hown : s.vm.findClass "java/lang/Math" = some m.cls := findClass_of_methodNamed Bd.named
  have hnm := (name_of_methodNamed Bd.named Bd.method).1
  have X0 : Stand p l e ⟨0, 0, 0, 0⟩ s m #[(.int vn), (.int vm)] below meth c s₁ [] 0 0 := Stand.of_body Bd
  have e0 : s₁.heap = h0 := by rw [← hh, Bd.state]; rfl
  have N0 := Fr.nil n0
  obtain ⟨SS, hSS⟩ : ∃ S, S = s₁.setTop (entryFrame m #[(.int vn), (.int vm)] 2) := ⟨_, rfl⟩
  have pre0 : oP p e below (s₁.setTop (mkF m 0 #[.val (.int vn), .val (.int vm)] [])) (SS) := by
    rw [hSS]; exact fun t k => castTop (ef_rm20 m vn vm) k
  have hc2_1 : ¬ (vm.toInt < vn.toInt) := by omega
  subst hSS
  obtain ⟨fs, hr, q1, q2, q3, q4⟩ := X0.leave (v := some (.int vn)) (fun h => by rw [Bd.returns] at h; cases h)
  refine ⟨_, _, pre0 _ ?_, q1, q2, _, _, rfl, ?_, ⟨_, rfl⟩, q3, q4.mono (by decide) (by decide)⟩
  · refine XS.iloadN X0.here hx rfl (hb hby d20_0) rfl ?_
    refine XS.iloadN X0.here hx rfl (hb hby d20_1) rfl ?_
    refine XS.icmpNo X0.here hx rfl (hb hby d20_2) rfl (own_flt (a := vm) (b := vn) rfl rfl hc2_1).2.2.1 ?_
    refine XS.iloadN X0.here hx rfl (hb hby d20_5) rfl ?_
    refine XS.goto X0.here hx rfl (pc0 := 6) (pc' := 10) rfl (hb hby d20_6) (by decide) (by decide) ?_
    exact retI X0 hx Bd.returns (hb hby d20_10) hr
  · show Q20 Z _ _ h0 n0 _ s₁.heap _
    rw [e0]
    exact ⟨_, rfl, rfl, N0, rfl⟩
theorem own_lo (c : Int32) : (nar .byte ((c >>> ((0 : Int32) &&& 31)).toInt8.toInt32)).toInt % 256 = c.toInt % 256 := by
  have e0 : (c >>> ((0 : Int32) &&& 31)).toInt = c.toInt / 1 := c_ishr c 0 0 (by decide)
  obtain ⟨x, hx⟩ : ∃ x, x = c >>> ((0 : Int32) &&& 31) := ⟨_, rfl⟩
  rw [← hx] at e0 ⊢
  have e : nar .byte x.toInt8.toInt32 = x.toInt8.toInt32.toInt8.toInt32 := rfl
  have q := c_i2b x; have q2 := c_i2b x.toInt8.toInt32
  rw [e]; omega
theorem own_hi (c : Int32) (h1 : 0 ≤ c.toInt) (h2 : c.toInt < 65536) : (nar .byte ((c >>> ((8 : Int32) &&& 31)).toInt8.toInt32)).toInt % 256 = c.toInt / 256 := by
  have e0 : (c >>> ((8 : Int32) &&& 31)).toInt = c.toInt / 256 := c_ishr c 8 8 (by decide)
  obtain ⟨x, hx⟩ : ∃ x, x = c >>> ((8 : Int32) &&& 31) := ⟨_, rfl⟩
  rw [← hx] at e0 ⊢
  have e : nar .byte x.toInt8.toInt32 = x.toInt8.toInt32.toInt8.toInt32 := rfl
  have q := c_i2b x; have q2 := c_i2b x.toInt8.toInt32
  rw [e]; omega
theorem own_gc (lo hi : Int32) : (nar .char ((((lo &&& (255 : Int32)) <<< ((0 : Int32) &&& 31)) ||| ((hi &&& (255 : Int32)) <<< ((8 : Int32) &&& 31))).toUInt32.toUInt16.toUInt32.toInt32)).toInt = lo.toInt % 256 + 256 * (hi.toInt % 256) := by
  have a1 : (lo &&& (255 : Int32)).toInt = lo.toInt % 256 := c_mask lo 255 8 (by decide) (by decide)
  have b1 : (hi &&& (255 : Int32)).toInt = hi.toInt % 256 := c_mask hi 255 8 (by decide) (by decide)
  generalize lo &&& (255 : Int32) = l0 at *
  generalize hi &&& (255 : Int32) = h0 at *
  have a2 : ((l0 <<< ((0 : Int32) &&& 31)).toInt - l0.toInt * 1) % 4294967296 = 0 := c_ishl l0 0 0 (by decide)
  have b2 : ((h0 <<< ((8 : Int32) &&& 31)).toInt - h0.toInt * 256) % 4294967296 = 0 := c_ishl h0 8 8 (by decide)
  have a3 := rng32 (l0 <<< ((0 : Int32) &&& 31)); have b3 := rng32 (h0 <<< ((8 : Int32) &&& 31))
  generalize l0 <<< ((0 : Int32) &&& 31) = l1 at *
  generalize h0 <<< ((8 : Int32) &&& 31) = h1 at *
  have a4 : l1.toInt = l0.toInt := by omega
  have b4 : h1.toInt = h0.toInt * 256 := by omega
  have o := c_or' l1 h1 8 (by decide) 256 rfl (by omega) (by omega) (by omega)
  have o2 := rng32 (l1 ||| h1)
  rw [own_narcZ]
  generalize l1 ||| h1 = w at *
  have q := c_i2c w
  omega
theorem d26_0 : decode kc7 0 = .ok (.getstatic 44, 3) := by decide +kernel
theorem d26_3 : decode kc7 3 = .ok (.ifCond .ne 25, 3) := by decide +kernel
theorem d26_28 : decode kc7 28 = .ok (.iload_n 1, 1) := by decide +kernel
theorem d26_29 : decode kc7 29 = .ok (.iconst 1, 1) := by decide +kernel
theorem d26_30 : decode kc7 30 = .ok (.ishl, 1) := by decide +kernel
theorem d26_31 : decode kc7 31 = .ok (.istore_n 1, 1) := by decide +kernel
theorem d26_32 : decode kc7 32 = .ok (.aload_n 0, 1) := by decide +kernel
theorem d26_33 : decode kc7 33 = .ok (.iload_n 1, 1) := by decide +kernel
theorem d26_34 : decode kc7 34 = .ok (.iinc 1 1, 3) := by decide +kernel
theorem d26_37 : decode kc7 37 = .ok (.baload, 1) := by decide +kernel
theorem d26_38 : decode kc7 38 = .ok (.sipush 255, 3) := by decide +kernel
theorem d26_41 : decode kc7 41 = .ok (.iand, 1) := by decide +kernel
theorem d26_42 : decode kc7 42 = .ok (.getstatic 59, 3) := by decide +kernel
theorem d26_45 : decode kc7 45 = .ok (.ishl, 1) := by decide +kernel
theorem d26_46 : decode kc7 46 = .ok (.aload_n 0, 1) := by decide +kernel
theorem d26_47 : decode kc7 47 = .ok (.iload_n 1, 1) := by decide +kernel
theorem d26_48 : decode kc7 48 = .ok (.baload, 1) := by decide +kernel
theorem d26_49 : decode kc7 49 = .ok (.sipush 255, 3) := by decide +kernel
theorem d26_52 : decode kc7 52 = .ok (.iand, 1) := by decide +kernel
theorem d26_53 : decode kc7 53 = .ok (.getstatic 63, 3) := by decide +kernel
theorem d26_56 : decode kc7 56 = .ok (.ishl, 1) := by decide +kernel
theorem d26_57 : decode kc7 57 = .ok (.ior, 1) := by decide +kernel
theorem d26_58 : decode kc7 58 = .ok (.i2c, 1) := by decide +kernel
theorem d26_59 : decode kc7 59 = .ok (.ireturn, 1) := by decide +kernel
theorem pn_3 : plainName "java/lang/StringUTF16" = true := by first | (simp [plainName, overriddenIn]; done) | decide +kernel
theorem ef_rm_gc (m : MethodId) (x0 : Addr) (x1 : Int32) : entryFrame m #[(.ref x0), (.int x1)] 2 = mkF m 0 #[.val (.ref x0), .val (.int x1)] [] := by first | (simp [entryFrame, mkF, argsToLocals, Value.category]; done) | rfl
def Q_gc (Z : State) (ob : Addr) (vi : Int32) (vcs : Int32) (vf : Value) (kb : ClassId) (zl : Int32) (vs : List Value) (lo : Int32) (hi : Int32) (im : Nat) (h0 : Heap) (n0 : Nat) (v : Option Value) (h : Heap) (L : List Loc) : Prop := ∃ z : Int32, v = some (.int z) ∧ (z.toInt = lo.toInt % 256 + 256 * (hi.toInt % 256)) ∧ Fr n0 L ∧ h = h0
theorem rm_gc (l : Launch) (Z : State) (a0 : Array Value) (hw : ∀ d ∈ tables_1, d.before a0 Z = true) (ws : List Jvm.Cond) (ob : Addr) (vi : Int32) (vcs : Int32) (vf : Value) (kb : ClassId) (zl : Int32) (vs : List Value) (lo : Int32) (hi : Int32) (im : Nat) (h0 : Heap) (n0 : Nat) (Z0 : n0 ≤ h0.size) (Os : own_st Z h0 vcs vf) (Vb : Arv Z h0 ob kb .byte zl vs (.int 0)) (i1 : 0 ≤ vi.toInt) (i2 : 2 * vi.toInt + 1 < zl.toInt) (hin : vi.toInt = im) (g0 : vs.getD (2 * im) (.int 0) = .int lo) (g1 : vs.getD (2 * im + 1) (.int 0) = .int hi) :
    MetFree l yn7 (head1 (Jvm.Cond.code yn7 kc7 2 (some .char) :: ws) ⟨0, 0, 0, 0⟩) (fun a U => a = #[(.ref ob), (.int vi)] ∧ Z.Warmed39 U.vm ∧ U.heap = h0) (fun _ _ _ _ _ => True) (fun _ U o U' => ∃ v L, o = .returned v ∧ Q_gc Z ob vi vcs vf kb zl vs lo hi im h0 n0 v U'.heap L ∧ FrameEnd U o U' L 0 0) := by
  refine MetFree.of_bodySF (plainFor_of_name pn_3) hisR ?_
  intro p e s m args below meth c s₁ Bd hml0 hP hK
  obtain ⟨rfl, hZ, hh⟩ := hP
  have hx := Bd.exec
  have hby := Bd.bytes
  have hml : c.maxLocals = 2 := hml0
  have hown : s.vm.findClass "java/lang/StringUTF16" = some m.cls := findClass_of_methodNamed Bd.named
  have hnm := (name_of_methodNamed Bd.named Bd.method).1
  have X0 : Stand p l e ⟨0, 0, 0, 0⟩ s m #[(.ref ob), (.int vi)] below meth c s₁ [] 0 0 := Stand.of_body Bd
  have e0 : s₁.heap = h0 := by rw [← hh, Bd.state]; rfl
  have N0 := Fr.nil n0
  obtain ⟨SS, hSS⟩ : ∃ S, S = s₁.setTop (entryFrame m #[(.ref ob), (.int vi)] 2) := ⟨_, rfl⟩
  have pre0 : oP p e below (s₁.setTop (mkF m 0 #[.val (.ref ob), .val (.int vi)] [])) (SS) := by
    rw [hSS]; exact fun t k => castTop (ef_rm_gc m ob vi) k
  have rzl := rng32 zl
  obtain ⟨T1, X1, e1, st1⟩ := getS2 X0 hx hZ hown (host := "") (Or.inl (ow hw 113 rfl)) Via.refl e0 Os.2.2.2.2.1 (g := (mkF m 0 #[.val (.ref ob), .val (.int vi)] [])) rfl (hb hby d26_0)
  have hc3_2 : ¬ ((1 : Int) = (0 : Int)) := by decide
  obtain ⟨cl3, Ar3, q3, S3, M3, H3, G3⟩ := id Vb
  have hin3 : ¬ ((vi <<< ((1 : Int32) &&& 31)) < 0 ∨ cl3.slots.size ≤ ((vi <<< ((1 : Int32) &&& 31))).toNatClampNeg) := inb_of S3 ⟨by rw [Int32.lt_iff_toInt_lt]; have k0 : (0 : Int32).toInt = 0 := (by decide); have := rng32 vi; (first | (have : ((vi <<< ((1 : Int32) &&& 31))).toInt = vi.toInt * 2 := (by have : (((vi <<< ((1 : Int32) &&& 31))).toInt - vi.toInt * 2) % 4294967296 = 0 := c_ishl vi (1 : Int32) 1 (by decide); have := rng32 (vi <<< ((1 : Int32) &&& 31)); omega)) | (have : (((vi <<< ((1 : Int32) &&& 31))).toInt - vi.toInt * 2) % 4294967296 = 0 := c_ishl vi (1 : Int32) 1 (by decide); have := rng32 (vi <<< ((1 : Int32) &&& 31)))); omega, by rw [Int32.lt_iff_toInt_lt]; have := rng32 vi; (first | (have : ((vi <<< ((1 : Int32) &&& 31))).toInt = vi.toInt * 2 := (by have : (((vi <<< ((1 : Int32) &&& 31))).toInt - vi.toInt * 2) % 4294967296 = 0 := c_ishl vi (1 : Int32) 1 (by decide); have := rng32 (vi <<< ((1 : Int32) &&& 31)); omega)) | (have : (((vi <<< ((1 : Int32) &&& 31))).toInt - vi.toInt * 2) % 4294967296 = 0 := c_ishl vi (1 : Int32) 1 (by decide); have := rng32 (vi <<< ((1 : Int32) &&& 31)))); omega⟩
  have hat3 : cl3.slots[((vi <<< ((1 : Int32) &&& 31))).toNatClampNeg]? = some (.int lo) := Has.at H3 hin3 (by rw [own_nat (j := (vi <<< ((1 : Int32) &&& 31))) (n := 2 * im) (by push_cast; have := rng32 vi; (first | (have : ((vi <<< ((1 : Int32) &&& 31))).toInt = vi.toInt * 2 := (by have : (((vi <<< ((1 : Int32) &&& 31))).toInt - vi.toInt * 2) % 4294967296 = 0 := c_ishl vi (1 : Int32) 1 (by decide); have := rng32 (vi <<< ((1 : Int32) &&& 31)); omega)) | (have : (((vi <<< ((1 : Int32) &&& 31))).toInt - vi.toInt * 2) % 4294967296 = 0 := c_ishl vi (1 : Int32) 1 (by decide); have := rng32 (vi <<< ((1 : Int32) &&& 31)))); omega)]; exact g0)
  obtain ⟨T4, X4, e4, st4⟩ := getS2 X1 hx hZ hown (host := "") (Or.inl (ow hw 114 rfl)) Via.refl e1 Os.2.2.2.2.2.1 (g := (mkF m 42 #[.val (.ref ob), .val (.int ((vi <<< ((1 : Int32) &&& 31)) + (1 : Int32)))] [(.int (lo &&& (255 : Int32)))])) rfl (hb hby d26_42)
  obtain ⟨cl5, Ar5, q5, S5, M5, H5, G5⟩ := id Vb
  have hin5 : ¬ (((vi <<< ((1 : Int32) &&& 31)) + (1 : Int32)) < 0 ∨ cl5.slots.size ≤ (((vi <<< ((1 : Int32) &&& 31)) + (1 : Int32))).toNatClampNeg) := inb_of S5 ⟨by rw [Int32.lt_iff_toInt_lt]; have k0 : (0 : Int32).toInt = 0 := (by decide); have := rng32 vi; (first | (have : ((vi <<< ((1 : Int32) &&& 31))).toInt = vi.toInt * 2 := (by have : (((vi <<< ((1 : Int32) &&& 31))).toInt - vi.toInt * 2) % 4294967296 = 0 := c_ishl vi (1 : Int32) 1 (by decide); have := rng32 (vi <<< ((1 : Int32) &&& 31)); omega)) | (have : (((vi <<< ((1 : Int32) &&& 31))).toInt - vi.toInt * 2) % 4294967296 = 0 := c_ishl vi (1 : Int32) 1 (by decide); have := rng32 (vi <<< ((1 : Int32) &&& 31)))); (first | (have : (((vi <<< ((1 : Int32) &&& 31)) + (1 : Int32))).toInt = (vi <<< ((1 : Int32) &&& 31)).toInt + (1 : Int) := (by have : ((((vi <<< ((1 : Int32) &&& 31)) + (1 : Int32))).toInt - ((vi <<< ((1 : Int32) &&& 31)).toInt + (1 : Int))) % 4294967296 = 0 := c_iadd (vi <<< ((1 : Int32) &&& 31)) (1 : Int32); have := rng32 ((vi <<< ((1 : Int32) &&& 31)) + (1 : Int32)); omega)) | (have : ((((vi <<< ((1 : Int32) &&& 31)) + (1 : Int32))).toInt - ((vi <<< ((1 : Int32) &&& 31)).toInt + (1 : Int))) % 4294967296 = 0 := c_iadd (vi <<< ((1 : Int32) &&& 31)) (1 : Int32); have := rng32 ((vi <<< ((1 : Int32) &&& 31)) + (1 : Int32)))); omega, by rw [Int32.lt_iff_toInt_lt]; have := rng32 vi; (first | (have : ((vi <<< ((1 : Int32) &&& 31))).toInt = vi.toInt * 2 := (by have : (((vi <<< ((1 : Int32) &&& 31))).toInt - vi.toInt * 2) % 4294967296 = 0 := c_ishl vi (1 : Int32) 1 (by decide); have := rng32 (vi <<< ((1 : Int32) &&& 31)); omega)) | (have : (((vi <<< ((1 : Int32) &&& 31))).toInt - vi.toInt * 2) % 4294967296 = 0 := c_ishl vi (1 : Int32) 1 (by decide); have := rng32 (vi <<< ((1 : Int32) &&& 31)))); (first | (have : (((vi <<< ((1 : Int32) &&& 31)) + (1 : Int32))).toInt = (vi <<< ((1 : Int32) &&& 31)).toInt + (1 : Int) := (by have : ((((vi <<< ((1 : Int32) &&& 31)) + (1 : Int32))).toInt - ((vi <<< ((1 : Int32) &&& 31)).toInt + (1 : Int))) % 4294967296 = 0 := c_iadd (vi <<< ((1 : Int32) &&& 31)) (1 : Int32); have := rng32 ((vi <<< ((1 : Int32) &&& 31)) + (1 : Int32)); omega)) | (have : ((((vi <<< ((1 : Int32) &&& 31)) + (1 : Int32))).toInt - ((vi <<< ((1 : Int32) &&& 31)).toInt + (1 : Int))) % 4294967296 = 0 := c_iadd (vi <<< ((1 : Int32) &&& 31)) (1 : Int32); have := rng32 ((vi <<< ((1 : Int32) &&& 31)) + (1 : Int32)))); omega⟩
  have hat5 : cl5.slots[(((vi <<< ((1 : Int32) &&& 31)) + (1 : Int32))).toNatClampNeg]? = some (.int hi) := Has.at H5 hin5 (by rw [own_nat (j := ((vi <<< ((1 : Int32) &&& 31)) + (1 : Int32))) (n := 2 * im + 1) (by push_cast; have := rng32 vi; (first | (have : ((vi <<< ((1 : Int32) &&& 31))).toInt = vi.toInt * 2 := (by have : (((vi <<< ((1 : Int32) &&& 31))).toInt - vi.toInt * 2) % 4294967296 = 0 := c_ishl vi (1 : Int32) 1 (by decide); have := rng32 (vi <<< ((1 : Int32) &&& 31)); omega)) | (have : (((vi <<< ((1 : Int32) &&& 31))).toInt - vi.toInt * 2) % 4294967296 = 0 := c_ishl vi (1 : Int32) 1 (by decide); have := rng32 (vi <<< ((1 : Int32) &&& 31)))); (first | (have : (((vi <<< ((1 : Int32) &&& 31)) + (1 : Int32))).toInt = (vi <<< ((1 : Int32) &&& 31)).toInt + (1 : Int) := (by have : ((((vi <<< ((1 : Int32) &&& 31)) + (1 : Int32))).toInt - ((vi <<< ((1 : Int32) &&& 31)).toInt + (1 : Int))) % 4294967296 = 0 := c_iadd (vi <<< ((1 : Int32) &&& 31)) (1 : Int32); have := rng32 ((vi <<< ((1 : Int32) &&& 31)) + (1 : Int32)); omega)) | (have : ((((vi <<< ((1 : Int32) &&& 31)) + (1 : Int32))).toInt - ((vi <<< ((1 : Int32) &&& 31)).toInt + (1 : Int))) % 4294967296 = 0 := c_iadd (vi <<< ((1 : Int32) &&& 31)) (1 : Int32); have := rng32 ((vi <<< ((1 : Int32) &&& 31)) + (1 : Int32)))); omega)]; exact g1)
  obtain ⟨T6, X6, e6, st6⟩ := getS2 X4 hx hZ hown (host := "") (Or.inl (ow hw 115 rfl)) Via.refl e4 Os.2.2.2.2.2.2 (g := (mkF m 53 #[.val (.ref ob), .val (.int ((vi <<< ((1 : Int32) &&& 31)) + (1 : Int32)))] [(.int (hi &&& (255 : Int32))), (.int ((lo &&& (255 : Int32)) <<< ((0 : Int32) &&& 31)))])) rfl (hb hby d26_53)
  subst hSS
  obtain ⟨fs, hr, q1, q2, q3, q4⟩ := X6.leave (v := some (.int (nar .char ((((lo &&& (255 : Int32)) <<< ((0 : Int32) &&& 31)) ||| ((hi &&& (255 : Int32)) <<< ((8 : Int32) &&& 31))).toUInt32.toUInt16.toUInt32.toInt32)))) (fun h => by rw [Bd.returns] at h; cases h)
  refine ⟨_, _, pre0 _ ?_, q1, q2, _, _, rfl, ?_, ⟨_, rfl⟩, q3, q4.mono (by decide) (by decide)⟩
  · refine st1 _ ?_
    refine XS.ifYes X1.here hx rfl (pc0 := 3) (pc' := 28) rfl (hb hby d26_3) rfl (own_if (own_feq (a := (1 : Int32)) (b := (0 : Int32)) (by decide) (by decide) hc3_2).2) (by decide) (by decide) ?_
    refine XS.iloadN X1.here hx rfl (hb hby d26_28) rfl ?_
    refine XS.iconst X1.here hx rfl (hb hby d26_29) ?_
    refine XS.ishl X1.here hx rfl (hb hby d26_30) rfl ?_
    refine XS.istoreN X1.here hx rfl (hb hby d26_31) rfl (l' := #[.val (.ref ob), .val (.int (vi <<< ((1 : Int32) &&& 31)))]) rfl ?_
    refine XS.aloadN X1.here hx rfl (hb hby d26_32) rfl rfl ?_
    refine XS.iloadN X1.here hx rfl (hb hby d26_33) rfl ?_
    refine XS.iinc X1.here hx rfl (hb hby d26_34) rfl (l' := #[.val (.ref ob), .val (.int ((vi <<< ((1 : Int32) &&& 31)) + (1 : Int32)))]) rfl ?_
    refine X1.baloadBytes hx (j := (vi <<< ((1 : Int32) &&& 31))) (v := (.int lo)) (by rw [e1]; exact Ar3.1) (State.isArrayOf_alike hZ.alike Ar3.2.1) Ar3.2.2 hin3 hat3 (g := (mkF m 37 #[.val (.ref ob), .val (.int ((vi <<< ((1 : Int32) &&& 31)) + (1 : Int32)))] [(.int (vi <<< ((1 : Int32) &&& 31))), (.ref ob)])) rfl rfl (hb hby d26_37) _ ?_
    refine XS.sipush X1.here hx rfl (hb hby d26_38) ?_
    refine XS.iand X1.here hx rfl (hb hby d26_41) rfl ?_
    refine st4 _ ?_
    refine XS.ishl X4.here hx rfl (hb hby d26_45) rfl ?_
    refine XS.aloadN X4.here hx rfl (hb hby d26_46) rfl rfl ?_
    refine XS.iloadN X4.here hx rfl (hb hby d26_47) rfl ?_
    refine X4.baloadBytes hx (j := ((vi <<< ((1 : Int32) &&& 31)) + (1 : Int32))) (v := (.int hi)) (by rw [e4]; exact Ar5.1) (State.isArrayOf_alike hZ.alike Ar5.2.1) Ar5.2.2 hin5 hat5 (g := (mkF m 48 #[.val (.ref ob), .val (.int ((vi <<< ((1 : Int32) &&& 31)) + (1 : Int32)))] [(.int ((vi <<< ((1 : Int32) &&& 31)) + (1 : Int32))), (.ref ob), (.int ((lo &&& (255 : Int32)) <<< ((0 : Int32) &&& 31)))])) rfl rfl (hb hby d26_48) _ ?_
    refine XS.sipush X4.here hx rfl (hb hby d26_49) ?_
    refine XS.iand X4.here hx rfl (hb hby d26_52) rfl ?_
    show Steps p.tables e below (T4.setTop (mkF m 53 #[.val (.ref ob), .val (.int ((vi <<< ((1 : Int32) &&& 31)) + (1 : Int32)))] [(.int (hi &&& (255 : Int32))), (.int ((lo &&& (255 : Int32)) <<< ((0 : Int32) &&& 31)))])) _
    refine st6 _ ?_
    refine XS.ishl X6.here hx rfl (hb hby d26_56) rfl ?_
    refine XS.ior X6.here hx rfl (hb hby d26_57) rfl ?_
    refine XS.i2c X6.here hx rfl (hb hby d26_58) rfl ?_
    exact retN X6 hx (t := .char) Bd.returns (by simp) (hb hby d26_59) hr
  · show Q_gc Z _ _ _ _ _ _ _ _ _ _ h0 n0 _ T6.heap _
    rw [e6]
    exact ⟨_, rfl, own_gc lo hi, N0, rfl⟩
theorem d30_0 : decode kc8 0 = .ok (.aload_n 0, 1) := by decide +kernel
theorem d30_1 : decode kc8 1 = .ok (.arraylength, 1) := by decide +kernel
theorem d30_2 : decode kc8 2 = .ok (.iconst 1, 1) := by decide +kernel
theorem d30_3 : decode kc8 3 = .ok (.ishr, 1) := by decide +kernel
theorem d30_4 : decode kc8 4 = .ok (.ireturn, 1) := by decide +kernel
theorem ef_rm_ulen (m : MethodId) (x0 : Addr) : entryFrame m #[(.ref x0)] 1 = mkF m 0 #[.val (.ref x0)] [] := by first | (simp [entryFrame, mkF, argsToLocals, Value.category]; done) | rfl
def Q_ulen (Z : State) (ob : Addr) (kb : ClassId) (zl : Int32) (vs : List Value) (h0 : Heap) (n0 : Nat) (v : Option Value) (h : Heap) (L : List Loc) : Prop := ∃ z : Int32, v = some (.int z) ∧ (z.toInt = zl.toInt / 2) ∧ Fr n0 L ∧ h = h0
theorem rm_ulen (l : Launch) (Z : State) (a0 : Array Value) (hw : ∀ d ∈ tables_1, d.before a0 Z = true) (ws : List Jvm.Cond) (ob : Addr) (kb : ClassId) (zl : Int32) (vs : List Value) (h0 : Heap) (n0 : Nat) (Z0 : n0 ≤ h0.size) (Vb : Arv Z h0 ob kb .byte zl vs (.int 0)) :
    MetFree l yn8 (head1 (Jvm.Cond.code yn8 kc8 1 (some .int) :: ws) ⟨0, 0, 0, 0⟩) (fun a U => a = #[(.ref ob)] ∧ Z.Warmed39 U.vm ∧ U.heap = h0) (fun _ _ _ _ _ => True) (fun _ U o U' => ∃ v L, o = .returned v ∧ Q_ulen Z ob kb zl vs h0 n0 v U'.heap L ∧ FrameEnd U o U' L 0 0) := by
  refine MetFree.of_bodySF (plainFor_of_name pn_3) hisR ?_
  intro p e s m args below meth c s₁ Bd hml0 hP hK
  obtain ⟨rfl, hZ, hh⟩ := hP
  have hx := Bd.exec
  have hby := Bd.bytes
  have hml : c.maxLocals = 1 := hml0
  have hown : s.vm.findClass "java/lang/StringUTF16" = some m.cls := findClass_of_methodNamed Bd.named
  have hnm := (name_of_methodNamed Bd.named Bd.method).1
  have X0 : Stand p l e ⟨0, 0, 0, 0⟩ s m #[(.ref ob)] below meth c s₁ [] 0 0 := Stand.of_body Bd
  have e0 : s₁.heap = h0 := by rw [← hh, Bd.state]; rfl
  have N0 := Fr.nil n0
  obtain ⟨SS, hSS⟩ : ∃ S, S = s₁.setTop (entryFrame m #[(.ref ob)] 1) := ⟨_, rfl⟩
  have pre0 : oP p e below (s₁.setTop (mkF m 0 #[.val (.ref ob)] [])) (SS) := by
    rw [hSS]; exact fun t k => castTop (ef_rm_ulen m ob) k
  obtain ⟨cl1, Ar1, q1, S1, M1, H1, G1⟩ := id Vb
  subst hSS
  obtain ⟨fs, hr, q1, q2, q3, q4⟩ := X0.leave (v := some (.int (zl >>> ((1 : Int32) &&& 31)))) (fun h => by rw [Bd.returns] at h; cases h)
  refine ⟨_, _, pre0 _ ?_, q1, q2, _, _, rfl, ?_, ⟨_, rfl⟩, q3, q4.mono (by decide) (by decide)⟩
  · refine XS.aloadN X0.here hx rfl (hb hby d30_0) rfl rfl ?_
    refine X0.arraylength hx (by rw [e0]; exact Ar1.1) (State.isArrayOf_alike hZ.alike Ar1.2.1) (g := (mkF m 1 #[.val (.ref ob)] [(.ref ob)])) rfl rfl (hb hby d30_1) _ ?_
    rw [len_of S1 M1]
    refine XS.iconst X0.here hx rfl (hb hby d30_2) ?_
    refine XS.ishr X0.here hx rfl (hb hby d30_3) rfl ?_
    exact retI X0 hx Bd.returns (hb hby d30_4) hr
  · show Q_ulen Z _ _ _ _ h0 n0 _ s₁.heap _
    rw [e0]
    exact ⟨_, rfl, by have := rng32 zl; have : ((zl >>> ((1 : Int32) &&& 31))).toInt = zl.toInt / 2 := c_ishr zl (1 : Int32) 1 (by decide); omega, N0, rfl⟩
theorem d32_0 : decode kc9 0 = .ok (.iload_n 0, 1) := by decide +kernel
theorem d32_1 : decode kc9 1 = .ok (.ifCond .lt 13, 3) := by decide +kernel
theorem d32_4 : decode kc9 4 = .ok (.iload_n 0, 1) := by decide +kernel
theorem d32_5 : decode kc9 5 = .ok (.iload_n 1, 1) := by decide +kernel
theorem d32_6 : decode kc9 6 = .ok (.if_icmp .gt 8, 3) := by decide +kernel
theorem d32_9 : decode kc9 9 = .ok (.iload_n 1, 1) := by decide +kernel
theorem d32_10 : decode kc9 10 = .ok (.iload_n 2, 1) := by decide +kernel
theorem d32_11 : decode kc9 11 = .ok (.if_icmp .le 11, 3) := by decide +kernel
theorem d32_22 : decode kc9 22 = .ok (.iload_n 0, 1) := by decide +kernel
theorem d32_23 : decode kc9 23 = .ok (.ireturn, 1) := by decide +kernel
theorem pn_4 : plainName "jdk/internal/util/Preconditions" = true := by first | (simp [plainName, overriddenIn]; done) | decide +kernel
theorem ef_rm_pftN (m : MethodId) (x1 : Int32) (x2 : Int32) : entryFrame m #[(.int 0), (.int x1), (.int x2), .null] 4 = mkF m 0 #[.val (.int 0), .val (.int x1), .val (.int x2), .val .null] [] := by first | (simp [entryFrame, mkF, argsToLocals, Value.category]; done) | rfl
def Q_pftN (Z : State) (vn : Int32) (vz : Int32) (h0 : Heap) (n0 : Nat) (v : Option Value) (h : Heap) (L : List Loc) : Prop := ∃ z : Int32, v = some (.int z) ∧ (True) ∧ Fr n0 L ∧ h = h0
theorem rm_pftN (l : Launch) (Z : State) (a0 : Array Value) (hw : ∀ d ∈ tables_1, d.before a0 Z = true) (ws : List Jvm.Cond) (vn : Int32) (vz : Int32) (h0 : Heap) (n0 : Nat) (Z0 : n0 ≤ h0.size) (i1 : 0 ≤ vn.toInt) (i2 : vn.toInt ≤ vz.toInt) :
    MetFree l yn9 (head1 (Jvm.Cond.code yn9 kc9 4 (some .int) :: ws) ⟨0, 0, 0, 0⟩) (fun a U => a = #[(.int 0), (.int vn), (.int vz), .null] ∧ Z.Warmed39 U.vm ∧ U.heap = h0) (fun _ _ _ _ _ => True) (fun _ U o U' => ∃ v L, o = .returned v ∧ Q_pftN Z vn vz h0 n0 v U'.heap L ∧ FrameEnd U o U' L 0 0) := by
  refine MetFree.of_bodySF (plainFor_of_name pn_4) hisR ?_
  intro p e s m args below meth c s₁ Bd hml0 hP hK
  obtain ⟨rfl, hZ, hh⟩ := hP
  have hx := Bd.exec
  have hby := Bd.bytes
  have hml : c.maxLocals = 4 := hml0
  have hown : s.vm.findClass "jdk/internal/util/Preconditions" = some m.cls := findClass_of_methodNamed Bd.named
  have hnm := (name_of_methodNamed Bd.named Bd.method).1
  have X0 : Stand p l e ⟨0, 0, 0, 0⟩ s m #[(.int 0), (.int vn), (.int vz), .null] below meth c s₁ [] 0 0 := Stand.of_body Bd
  have e0 : s₁.heap = h0 := by rw [← hh, Bd.state]; rfl
  have N0 := Fr.nil n0
  obtain ⟨SS, hSS⟩ : ∃ S, S = s₁.setTop (entryFrame m #[(.int 0), (.int vn), (.int vz), .null] 4) := ⟨_, rfl⟩
  have pre0 : oP p e below (s₁.setTop (mkF m 0 #[.val (.int 0), .val (.int vn), .val (.int vz), .val .null] [])) (SS) := by
    rw [hSS]; exact fun t k => castTop (ef_rm_pftN m vn vz) k
  have hc1_1 : ¬ ((0 : Int) < (0 : Int)) := by decide
  have hc6_2 : ¬ (vn.toInt < (0 : Int)) := by omega
  have hc11_3 : ¬ (vz.toInt < vn.toInt) := by omega
  subst hSS
  obtain ⟨fs, hr, q1, q2, q3, q4⟩ := X0.leave (v := some (.int 0)) (fun h => by rw [Bd.returns] at h; cases h)
  refine ⟨_, _, pre0 _ ?_, q1, q2, _, _, rfl, ?_, ⟨_, rfl⟩, q3, q4.mono (by decide) (by decide)⟩
  · refine XS.iloadN X0.here hx rfl (hb hby d32_0) rfl ?_
    refine XS.ifNo X0.here hx rfl (hb hby d32_1) rfl (own_if (own_flt (a := (0 : Int32)) (b := (0 : Int32)) (by decide) (by decide) hc1_1).1) ?_
    refine XS.iloadN X0.here hx rfl (hb hby d32_4) rfl ?_
    refine XS.iloadN X0.here hx rfl (hb hby d32_5) rfl ?_
    refine XS.icmpNo X0.here hx rfl (hb hby d32_6) rfl (own_flt (a := vn) (b := (0 : Int32)) rfl (by decide) hc6_2).2.2.1 ?_
    refine XS.iloadN X0.here hx rfl (hb hby d32_9) rfl ?_
    refine XS.iloadN X0.here hx rfl (hb hby d32_10) rfl ?_
    refine XS.icmpYes X0.here hx rfl (pc0 := 11) (pc' := 22) rfl (hb hby d32_11) rfl (own_flt (a := vz) (b := vn) rfl rfl hc11_3).2.2.2 (by decide) (by decide) ?_
    refine XS.iloadN X0.here hx rfl (hb hby d32_22) rfl ?_
    exact retI X0 hx Bd.returns (hb hby d32_23) hr
  · show Q_pftN Z _ _ h0 n0 _ s₁.heap _
    rw [e0]
    exact ⟨_, rfl, trivial, N0, rfl⟩
theorem ef_rm_pftR (m : MethodId) (x1 : Int32) (x2 : Int32) (x3 : Addr) : entryFrame m #[(.int 0), (.int x1), (.int x2), (.ref x3)] 4 = mkF m 0 #[.val (.int 0), .val (.int x1), .val (.int x2), .val (.ref x3)] [] := by first | (simp [entryFrame, mkF, argsToLocals, Value.category]; done) | rfl
def Q_pftR (Z : State) (vn : Int32) (vz : Int32) (wf : Addr) (h0 : Heap) (n0 : Nat) (v : Option Value) (h : Heap) (L : List Loc) : Prop := ∃ z : Int32, v = some (.int z) ∧ (True) ∧ Fr n0 L ∧ h = h0
theorem rm_pftR (l : Launch) (Z : State) (a0 : Array Value) (hw : ∀ d ∈ tables_1, d.before a0 Z = true) (ws : List Jvm.Cond) (vn : Int32) (vz : Int32) (wf : Addr) (h0 : Heap) (n0 : Nat) (Z0 : n0 ≤ h0.size) (i1 : 0 ≤ vn.toInt) (i2 : vn.toInt ≤ vz.toInt) :
    MetFree l yn9 (head1 (Jvm.Cond.code yn9 kc9 4 (some .int) :: ws) ⟨0, 0, 0, 0⟩) (fun a U => a = #[(.int 0), (.int vn), (.int vz), (.ref wf)] ∧ Z.Warmed39 U.vm ∧ U.heap = h0) (fun _ _ _ _ _ => True) (fun _ U o U' => ∃ v L, o = .returned v ∧ Q_pftR Z vn vz wf h0 n0 v U'.heap L ∧ FrameEnd U o U' L 0 0) := by
  refine MetFree.of_bodySF (plainFor_of_name pn_4) hisR ?_
  intro p e s m args below meth c s₁ Bd hml0 hP hK
  obtain ⟨rfl, hZ, hh⟩ := hP
  have hx := Bd.exec
  have hby := Bd.bytes
  have hml : c.maxLocals = 4 := hml0
  have hown : s.vm.findClass "jdk/internal/util/Preconditions" = some m.cls := findClass_of_methodNamed Bd.named
  have hnm := (name_of_methodNamed Bd.named Bd.method).1
  have X0 : Stand p l e ⟨0, 0, 0, 0⟩ s m #[(.int 0), (.int vn), (.int vz), (.ref wf)] below meth c s₁ [] 0 0 := Stand.of_body Bd
  have e0 : s₁.heap = h0 := by rw [← hh, Bd.state]; rfl
  have N0 := Fr.nil n0
  obtain ⟨SS, hSS⟩ : ∃ S, S = s₁.setTop (entryFrame m #[(.int 0), (.int vn), (.int vz), (.ref wf)] 4) := ⟨_, rfl⟩
  have pre0 : oP p e below (s₁.setTop (mkF m 0 #[.val (.int 0), .val (.int vn), .val (.int vz), .val (.ref wf)] [])) (SS) := by
    rw [hSS]; exact fun t k => castTop (ef_rm_pftR m vn vz wf) k
  have hc1_1 : ¬ ((0 : Int) < (0 : Int)) := by decide
  have hc6_2 : ¬ (vn.toInt < (0 : Int)) := by omega
  have hc11_3 : ¬ (vz.toInt < vn.toInt) := by omega
  subst hSS
  obtain ⟨fs, hr, q1, q2, q3, q4⟩ := X0.leave (v := some (.int 0)) (fun h => by rw [Bd.returns] at h; cases h)
  refine ⟨_, _, pre0 _ ?_, q1, q2, _, _, rfl, ?_, ⟨_, rfl⟩, q3, q4.mono (by decide) (by decide)⟩
  · refine XS.iloadN X0.here hx rfl (hb hby d32_0) rfl ?_
    refine XS.ifNo X0.here hx rfl (hb hby d32_1) rfl (own_if (own_flt (a := (0 : Int32)) (b := (0 : Int32)) (by decide) (by decide) hc1_1).1) ?_
    refine XS.iloadN X0.here hx rfl (hb hby d32_4) rfl ?_
    refine XS.iloadN X0.here hx rfl (hb hby d32_5) rfl ?_
    refine XS.icmpNo X0.here hx rfl (hb hby d32_6) rfl (own_flt (a := vn) (b := (0 : Int32)) rfl (by decide) hc6_2).2.2.1 ?_
    refine XS.iloadN X0.here hx rfl (hb hby d32_9) rfl ?_
    refine XS.iloadN X0.here hx rfl (hb hby d32_10) rfl ?_
    refine XS.icmpYes X0.here hx rfl (pc0 := 11) (pc' := 22) rfl (hb hby d32_11) rfl (own_flt (a := vz) (b := vn) rfl rfl hc11_3).2.2.2 (by decide) (by decide) ?_
    refine XS.iloadN X0.here hx rfl (hb hby d32_22) rfl ?_
    exact retI X0 hx Bd.returns (hb hby d32_23) hr
  · show Q_pftR Z _ _ _ h0 n0 _ s₁.heap _
    rw [e0]
    exact ⟨_, rfl, trivial, N0, rfl⟩
theorem d31_0 : decode kc10 0 = .ok (.iload_n 0, 1) := by decide +kernel
theorem d31_1 : decode kc10 1 = .ok (.iload_n 1, 1) := by decide +kernel
theorem d31_2 : decode kc10 2 = .ok (.iload_n 2, 1) := by decide +kernel
theorem d31_3 : decode kc10 3 = .ok (.getstatic 1053, 3) := by decide +kernel
theorem d31_6 : decode kc10 6 = .ok (.invokestatic 1062, 3) := by decide +kernel
theorem d31_9 : decode kc10 9 = .ok (.pop, 1) := by decide +kernel
theorem d31_10 : decode kc10 10 = .ok (.return_, 1) := by decide +kernel
theorem ef_rm_cbe (m : MethodId) (x1 : Int32) (x2 : Int32) : entryFrame m #[(.int 0), (.int x1), (.int x2)] 3 = mkF m 0 #[.val (.int 0), .val (.int x1), .val (.int x2)] [] := by first | (simp [entryFrame, mkF, argsToLocals, Value.category]; done) | rfl
theorem pd_1 : parseMethodDescriptor "(IIILjava/util/function/BiFunction;)I" = some ⟨[.int, .int, .int, (.object "java/util/function/BiFunction")], some .int⟩ := by decide +kernel
def Q_cbe (Z : State) (vn : Int32) (vz : Int32) (vcs : Int32) (vf : Value) (h0 : Heap) (n0 : Nat) (v : Option Value) (h : Heap) (L : List Loc) : Prop := v = none ∧ Fr n0 L ∧ h = h0
theorem rm_cbe (l : Launch) (Z : State) (a0 : Array Value) (hw : ∀ d ∈ tables_1, d.before a0 Z = true) (ws : List Jvm.Cond) (vn : Int32) (vz : Int32) (vcs : Int32) (vf : Value) (h0 : Heap) (n0 : Nat) (Z0 : n0 ≤ h0.size) (Os : own_st Z h0 vcs vf) (i1 : 0 ≤ vn.toInt) (i2 : vn.toInt ≤ vz.toInt) :
    MetFree l yn10 (head1 (Jvm.Cond.code yn10 kc10 3 none :: ws) ⟨1, 0, 0, 15⟩) (fun a U => a = #[(.int 0), (.int vn), (.int vz)] ∧ Z.Warmed39 U.vm ∧ U.heap = h0) (fun _ _ _ _ _ => True) (fun _ U o U' => ∃ v L, o = .returned v ∧ Q_cbe Z vn vz vcs vf h0 n0 v U'.heap L ∧ FrameEnd U o U' L 0 0) := by
  refine MetFree.of_bodySF (plainFor_of_name pn_1) hisR ?_
  intro p e s m args below meth c s₁ Bd hml0 hP hK
  obtain ⟨rfl, hZ, hh⟩ := hP
  have hx := Bd.exec
  have hby := Bd.bytes
  have hml : c.maxLocals = 3 := hml0
  have hown : s.vm.findClass "java/lang/String" = some m.cls := findClass_of_methodNamed Bd.named
  have hnm := (name_of_methodNamed Bd.named Bd.method).1
  have X0 : Stand p l e ⟨1, 0, 0, 15⟩ s m #[(.int 0), (.int vn), (.int vz)] below meth c s₁ [] 0 0 := Stand.of_body Bd
  have e0 : s₁.heap = h0 := by rw [← hh, Bd.state]; rfl
  have N0 := Fr.nil n0
  obtain ⟨SS, hSS⟩ : ∃ S, S = s₁.setTop (entryFrame m #[(.int 0), (.int vn), (.int vz)] 3) := ⟨_, rfl⟩
  have pre0 : oP p e below (s₁.setTop (mkF m 0 #[.val (.int 0), .val (.int vn), .val (.int vz)] [])) (SS) := by
    rw [hSS]; exact fun t k => castTop (ef_rm_cbe m vn vz) k
  obtain ⟨T1, X1, e1, st1⟩ := getS2 X0 hx hZ hown (host := "") (Or.inl (ow hw 137 rfl)) Via.refl e0 Os.2.2.1 (g := (mkF m 3 #[.val (.int 0), .val (.int vn), .val (.int vz)] [(.int vz), (.int vn), (.int 0)])) rfl (hb hby d31_3)
  have pre2 : oP p e below (T1.setTop (mkF m 6 #[.val (.int 0), .val (.int vn), .val (.int vz)] [vf, (.int vz), (.int vn), (.int 0)])) (SS) := fun t kt => by
    refine pre0 _ ?_
    refine XS.iloadN X0.here hx rfl (hb hby d31_0) rfl ?_
    refine XS.iloadN X0.here hx rfl (hb hby d31_1) rfl ?_
    refine XS.iloadN X0.here hx rfl (hb hby d31_2) rfl ?_
    refine st1 _ ?_
    exact kt
  rcases ref_cases (Os.2.2.2.1) with rfl | ⟨wf, rfl⟩
  · have pre3 : oP p e below (T1.setTop (mkF m 6 #[.val (.int 0), .val (.int vn), .val (.int vz)] [.null, (.int vz), (.int vn), (.int 0)])) (SS) := pre2
    obtain ⟨_, _, ⟨T4, L4, k4, n4⟩, -, X4, ⟨Lc4, hQ4, l4, y4, z4⟩, st4⟩ := Jvm.LawKit.callS X1 hx (y := yn9) hown (mvT hZ (ow hw 139 rfl)) (mvT hZ (ow hw 140 rfl)) (mvT hZ (ow hw 138 rfl)) (mvT hZ (ow hw 141 rfl)) (by decide) (backOf (W := 0) (rm_pftN l Z a0 hw [] vn vz h0 n0 Z0 i1 i2) hZ (ow hw 141 rfl) (ow hw 138 rfl) (by decide) (by decide)) (g := (mkF m 6 #[.val (.int 0), .val (.int vn), .val (.int vz)] [.null, (.int vz), (.int vn), (.int 0)])) rfl (by rw [hml]; rfl) (argsL := [(.int 0), (.int vn), (.int vz), .null]) (rest := []) (lenOf pd_1 rfl) rfl (by exact Nat.le_of_eq rfl) (hb hby d31_6) (fun _ _ => ⟨rfl, e1, (by decide : 0 + 0 ≤ _), (by decide : 0 + 0 ≤ _)⟩)
    dsimp only [Pt.U, Pt.locs, Pt.cells, Pt.slots] at X4 l4 y4 z4 st4 hQ4
    rw [l4, y4, z4] at X4
    obtain ⟨zk, rfl, hzk, N4q, e4⟩ := hQ4
    have N4 := Fr.app N0 N4q
    subst hSS
    obtain ⟨fs, hr, q1, q2, q3, q4⟩ := X4.leave (v := none) (fun _ => rfl)
    refine ⟨_, _, pre3 _ ?_, q1, q2, _, _, rfl, ?_, ⟨_, rfl⟩, q3, q4.mono (by decide) (by decide)⟩
    · refine st4 _ ?_
      refine XS.pop X4.here hx rfl (hb hby d31_9) rfl rfl ?_
      exact X4.returnOut hx Bd.returns (hb hby d31_10) hr
    · show Q_cbe Z _ _ _ _ h0 n0 _ T4.heap _
      rw [e4]
      exact ⟨rfl, N4, rfl⟩
  · have pre5 : oP p e below (T1.setTop (mkF m 6 #[.val (.int 0), .val (.int vn), .val (.int vz)] [(.ref wf), (.int vz), (.int vn), (.int 0)])) (SS) := pre2
    obtain ⟨_, _, ⟨T6, L6, k6, n6⟩, -, X6, ⟨Lc6, hQ6, l6, y6, z6⟩, st6⟩ := Jvm.LawKit.callS X1 hx (y := yn9) hown (mvT hZ (ow hw 139 rfl)) (mvT hZ (ow hw 140 rfl)) (mvT hZ (ow hw 138 rfl)) (mvT hZ (ow hw 141 rfl)) (by decide) (backOf (W := 0) (rm_pftR l Z a0 hw [] vn vz wf h0 n0 Z0 i1 i2) hZ (ow hw 141 rfl) (ow hw 138 rfl) (by decide) (by decide)) (g := (mkF m 6 #[.val (.int 0), .val (.int vn), .val (.int vz)] [(.ref wf), (.int vz), (.int vn), (.int 0)])) rfl (by rw [hml]; rfl) (argsL := [(.int 0), (.int vn), (.int vz), (.ref wf)]) (rest := []) (lenOf pd_1 rfl) rfl (by exact Nat.le_of_eq rfl) (hb hby d31_6) (fun _ _ => ⟨rfl, e1, (by decide : 0 + 0 ≤ _), (by decide : 0 + 0 ≤ _)⟩)
    dsimp only [Pt.U, Pt.locs, Pt.cells, Pt.slots] at X6 l6 y6 z6 st6 hQ6
    rw [l6, y6, z6] at X6
    obtain ⟨zk, rfl, hzk, N6q, e6⟩ := hQ6
    have N6 := Fr.app N0 N6q
    subst hSS
    obtain ⟨fs, hr, q1, q2, q3, q4⟩ := X6.leave (v := none) (fun _ => rfl)
    refine ⟨_, _, pre5 _ ?_, q1, q2, _, _, rfl, ?_, ⟨_, rfl⟩, q3, q4.mono (by decide) (by decide)⟩
    · refine st6 _ ?_
      refine XS.pop X6.here hx rfl (hb hby d31_9) rfl rfl ?_
      exact X6.returnOut hx Bd.returns (hb hby d31_10) hr
    · show Q_cbe Z _ _ _ _ h0 n0 _ T6.heap _
      rw [e6]
      exact ⟨rfl, N6, rfl⟩
theorem d29_0 : decode kc11 0 = .ok (.iload_n 0, 1) := by decide +kernel
theorem d29_1 : decode kc11 1 = .ok (.iload_n 1, 1) := by decide +kernel
theorem d29_2 : decode kc11 2 = .ok (.aload_n 2, 1) := by decide +kernel
theorem d29_3 : decode kc11 3 = .ok (.invokestatic 48, 3) := by decide +kernel
theorem d29_6 : decode kc11 6 = .ok (.invokestatic 241, 3) := by decide +kernel
theorem d29_9 : decode kc11 9 = .ok (.return_, 1) := by decide +kernel
theorem ef_rm_ucb (m : MethodId) (x1 : Int32) (x2 : Addr) : entryFrame m #[(.int 0), (.int x1), (.ref x2)] 3 = mkF m 0 #[.val (.int 0), .val (.int x1), .val (.ref x2)] [] := by first | (simp [entryFrame, mkF, argsToLocals, Value.category]; done) | rfl
theorem pd_2 : parseMethodDescriptor "([B)I" = some ⟨[(.array .byte)], some .int⟩ := by decide +kernel
theorem pd_3 : parseMethodDescriptor "(III)V" = some ⟨[.int, .int, .int], none⟩ := by decide +kernel
def Q_ucb (Z : State) (vn : Int32) (ob : Addr) (vcs : Int32) (vf : Value) (kb : ClassId) (zl : Int32) (vs : List Value) (h0 : Heap) (n0 : Nat) (v : Option Value) (h : Heap) (L : List Loc) : Prop := v = none ∧ Fr n0 L ∧ h = h0
theorem rm_ucb (l : Launch) (Z : State) (a0 : Array Value) (hw : ∀ d ∈ tables_1, d.before a0 Z = true) (ws : List Jvm.Cond) (vn : Int32) (ob : Addr) (vcs : Int32) (vf : Value) (kb : ClassId) (zl : Int32) (vs : List Value) (h0 : Heap) (n0 : Nat) (Z0 : n0 ≤ h0.size) (Os : own_st Z h0 vcs vf) (Vb : Arv Z h0 ob kb .byte zl vs (.int 0)) (i1 : 0 ≤ vn.toInt) (i2 : 2 * vn.toInt = zl.toInt) :
    MetFree l yn11 (head1 (Jvm.Cond.code yn11 kc11 3 none :: ws) ⟨2, 0, 0, 29⟩) (fun a U => a = #[(.int 0), (.int vn), (.ref ob)] ∧ Z.Warmed39 U.vm ∧ U.heap = h0) (fun _ _ _ _ _ => True) (fun _ U o U' => ∃ v L, o = .returned v ∧ Q_ucb Z vn ob vcs vf kb zl vs h0 n0 v U'.heap L ∧ FrameEnd U o U' L 0 0) := by
  refine MetFree.of_bodySF (plainFor_of_name pn_3) hisR ?_
  intro p e s m args below meth c s₁ Bd hml0 hP hK
  obtain ⟨rfl, hZ, hh⟩ := hP
  have hx := Bd.exec
  have hby := Bd.bytes
  have hml : c.maxLocals = 3 := hml0
  have hown : s.vm.findClass "java/lang/StringUTF16" = some m.cls := findClass_of_methodNamed Bd.named
  have hnm := (name_of_methodNamed Bd.named Bd.method).1
  have X0 : Stand p l e ⟨2, 0, 0, 29⟩ s m #[(.int 0), (.int vn), (.ref ob)] below meth c s₁ [] 0 0 := Stand.of_body Bd
  have e0 : s₁.heap = h0 := by rw [← hh, Bd.state]; rfl
  have N0 := Fr.nil n0
  obtain ⟨SS, hSS⟩ : ∃ S, S = s₁.setTop (entryFrame m #[(.int 0), (.int vn), (.ref ob)] 3) := ⟨_, rfl⟩
  have pre0 : oP p e below (s₁.setTop (mkF m 0 #[.val (.int 0), .val (.int vn), .val (.ref ob)] [])) (SS) := by
    rw [hSS]; exact fun t k => castTop (ef_rm_ucb m vn ob) k
  obtain ⟨_, _, ⟨T1, L1, k1, n1⟩, -, X1, ⟨Lc1, hQ1, l1, y1, z1⟩, st1⟩ := Jvm.LawKit.callS X0 hx (y := yn8) hown (mvT hZ (ow hw 131 rfl)) (mvT hZ (ow hw 132 rfl)) (mvT hZ (ow hw 39 rfl)) (mvT hZ (ow hw 133 rfl)) (by decide) (backOf (W := 2) (rm_ulen l Z a0 hw [] ob kb zl vs h0 n0 Z0 Vb) hZ (ow hw 133 rfl) (ow hw 39 rfl) (by decide) (by decide)) (g := (mkF m 3 #[.val (.int 0), .val (.int vn), .val (.ref ob)] [(.ref ob), (.int vn), (.int 0)])) rfl (by rw [hml]; rfl) (argsL := [(.ref ob)]) (rest := [(.int vn), (.int 0)]) (lenOf pd_2 rfl) rfl (by exact Nat.le_of_eq rfl) (hb hby d29_3) (fun _ _ => ⟨rfl, e0, (by decide : 0 + 0 ≤ _), (by decide : 0 + 0 ≤ _)⟩)
  dsimp only [Pt.U, Pt.locs, Pt.cells, Pt.slots] at X1 l1 y1 z1 st1 hQ1
  rw [l1, y1, z1] at X1
  obtain ⟨zn, rfl, hzn, N1q, e1⟩ := hQ1
  have N1 := Fr.app N0 N1q
  obtain ⟨_, _, ⟨T2, L2, k2, n2⟩, -, X2, ⟨Lc2, hQ2, l2, y2, z2⟩, st2⟩ := Jvm.LawKit.callS X1 hx (y := yn10) hown (mvT hZ (ow hw 134 rfl)) (mvT hZ (ow hw 135 rfl)) (mvT hZ (ow hw 8 rfl)) (mvT hZ (ow hw 136 rfl)) (by decide) (backOf (W := 0) (rm_cbe l Z a0 hw [] vn zn vcs vf h0 n0 Z0 Os i1 (by omega)) hZ (ow hw 136 rfl) (ow hw 8 rfl) (by decide) (by decide)) (g := (mkF m 6 #[.val (.int 0), .val (.int vn), .val (.ref ob)] [(.int zn), (.int vn), (.int 0)])) rfl (by rw [hml]; rfl) (argsL := [(.int 0), (.int vn), (.int zn)]) (rest := []) (lenOf pd_3 rfl) rfl (by exact Nat.le_of_eq rfl) (hb hby d29_6) (fun _ _ => ⟨rfl, e1, (by decide : 0 + 0 ≤ _), (by decide : 0 + 0 ≤ _)⟩)
  dsimp only [Pt.U, Pt.locs, Pt.cells, Pt.slots] at X2 l2 y2 z2 st2 hQ2
  rw [l2, y2, z2] at X2
  obtain ⟨rfl, N2q, e2⟩ := hQ2
  have N2 := Fr.app N1 N2q
  subst hSS
  obtain ⟨fs, hr, q1, q2, q3, q4⟩ := X2.leave (v := none) (fun _ => rfl)
  refine ⟨_, _, pre0 _ ?_, q1, q2, _, _, rfl, ?_, ⟨_, rfl⟩, q3, q4.mono (by decide) (by decide)⟩
  · refine XS.iloadN X0.here hx rfl (hb hby d29_0) rfl ?_
    refine XS.iloadN X0.here hx rfl (hb hby d29_1) rfl ?_
    refine XS.aloadN X0.here hx rfl (hb hby d29_2) rfl rfl ?_
    refine st1 _ ?_
    refine st2 _ ?_
    exact X2.returnOut hx Bd.returns (hb hby d29_9) hr
  · show Q_ucb Z _ _ _ _ _ _ _ h0 n0 _ T2.heap _
    rw [e2]
    exact ⟨rfl, N2, rfl⟩
theorem d16_0 : decode kc12 0 = .ok (.getstatic 38, 3) := by decide +kernel
theorem d16_3 : decode kc12 3 = .ok (.ifCond .eq 10, 3) := by decide +kernel
theorem d16_6 : decode kc12 6 = .ok (.aload_n 0, 1) := by decide +kernel
theorem d16_7 : decode kc12 7 = .ok (.getfield 15, 3) := by decide +kernel
theorem d16_10 : decode kc12 10 = .ok (.goto 4, 3) := by decide +kernel
theorem d16_14 : decode kc12 14 = .ok (.ireturn, 1) := by decide +kernel
theorem ef_rm_cod0 (m : MethodId) (x0 : Addr) : entryFrame m #[(.ref x0)] 1 = mkF m 0 #[.val (.ref x0)] [] := by first | (simp [entryFrame, mkF, argsToLocals, Value.category]; done) | rfl
def Q_cod0 (Z : State) (oa : Addr) (vcs : Int32) (vf : Value) (h0 : Heap) (n0 : Nat) (v : Option Value) (h : Heap) (L : List Loc) : Prop := ∃ z : Int32, v = some (.int z) ∧ (z = (0 : Int32)) ∧ Fr n0 L ∧ h = h0
theorem rm_cod0 (l : Launch) (Z : State) (a0 : Array Value) (hw : ∀ d ∈ tables_1, d.before a0 Z = true) (ws : List Jvm.Cond) (oa : Addr) (vcs : Int32) (vf : Value) (h0 : Heap) (n0 : Nat) (Z0 : n0 ≤ h0.size) (Os : own_st Z h0 vcs vf) (Fc : Fld Z h0 oa "java/lang/String" "coder" "B" (.int 0)) :
    MetFree l yn12 (head1 (Jvm.Cond.code yn12 kc12 1 (some .byte) :: ws) ⟨0, 0, 0, 0⟩) (fun a U => a = #[(.ref oa)] ∧ Z.Warmed39 U.vm ∧ U.heap = h0) (fun _ _ _ _ _ => True) (fun _ U o U' => ∃ v L, o = .returned v ∧ Q_cod0 Z oa vcs vf h0 n0 v U'.heap L ∧ FrameEnd U o U' L 0 0) := by
  refine MetFree.of_bodySF (plainFor_of_name pn_1) hisR ?_
  intro p e s m args below meth c s₁ Bd hml0 hP hK
  obtain ⟨rfl, hZ, hh⟩ := hP
  have hx := Bd.exec
  have hby := Bd.bytes
  have hml : c.maxLocals = 1 := hml0
  have hown : s.vm.findClass "java/lang/String" = some m.cls := findClass_of_methodNamed Bd.named
  have hnm := (name_of_methodNamed Bd.named Bd.method).1
  have X0 : Stand p l e ⟨0, 0, 0, 0⟩ s m #[(.ref oa)] below meth c s₁ [] 0 0 := Stand.of_body Bd
  have e0 : s₁.heap = h0 := by rw [← hh, Bd.state]; rfl
  have N0 := Fr.nil n0
  obtain ⟨SS, hSS⟩ : ∃ S, S = s₁.setTop (entryFrame m #[(.ref oa)] 1) := ⟨_, rfl⟩
  have pre0 : oP p e below (s₁.setTop (mkF m 0 #[.val (.ref oa)] [])) (SS) := by
    rw [hSS]; exact fun t k => castTop (ef_rm_cod0 m oa) k
  obtain ⟨T1, X1, e1, st1⟩ := getS2 X0 hx hZ hown (host := "") (Or.inl (ow hw 36 rfl)) Via.refl e0 Os.1 (g := (mkF m 0 #[.val (.ref oa)] [])) rfl (hb hby d16_0)
  have hc3_2 : ¬ (vcs.toInt = (0 : Int)) := by (have q := Os.2.1; omega)
  obtain ⟨T3, X3, e3, st3⟩ := getF X1 hx hZ hown (host := "") (Or.inl (ow hw 26 rfl)) Via.refl e1 Fc (g := (mkF m 7 #[.val (.ref oa)] [(.ref oa)])) rfl rfl (hb hby d16_7)
  subst hSS
  obtain ⟨fs, hr, q1, q2, q3, q4⟩ := X3.leave (v := some (.int 0)) (fun h => by rw [Bd.returns] at h; cases h)
  refine ⟨_, _, pre0 _ ?_, q1, q2, _, _, rfl, ?_, ⟨_, rfl⟩, q3, q4.mono (by decide) (by decide)⟩
  · refine st1 _ ?_
    refine XS.ifNo X1.here hx rfl (hb hby d16_3) rfl (own_if (own_feq (a := vcs) (b := (0 : Int32)) rfl (by decide) hc3_2).1) ?_
    refine XS.aloadN X1.here hx rfl (hb hby d16_6) rfl rfl ?_
    refine st3 _ ?_
    refine XS.goto X3.here hx rfl (pc0 := 10) (pc' := 14) rfl (hb hby d16_10) (by decide) (by decide) ?_
    exact retN X3 hx (t := .byte) Bd.returns (by simp) (hb hby d16_14) hr
  · show Q_cod0 Z _ _ _ h0 n0 _ T3.heap _
    rw [e3]
    exact ⟨_, rfl, rfl, N0, rfl⟩
theorem d15_0 : decode kc13 0 = .ok (.aload_n 0, 1) := by decide +kernel
theorem d15_1 : decode kc13 1 = .ok (.getfield 9, 3) := by decide +kernel
theorem d15_4 : decode kc13 4 = .ok (.arraylength, 1) := by decide +kernel
theorem d15_5 : decode kc13 5 = .ok (.aload_n 0, 1) := by decide +kernel
theorem d15_6 : decode kc13 6 = .ok (.invokevirtual 335, 3) := by decide +kernel
theorem d15_9 : decode kc13 9 = .ok (.ishr, 1) := by decide +kernel
theorem d15_10 : decode kc13 10 = .ok (.ireturn, 1) := by decide +kernel
theorem ef_rm_lg0 (m : MethodId) (x0 : Addr) : entryFrame m #[(.ref x0)] 1 = mkF m 0 #[.val (.ref x0)] [] := by first | (simp [entryFrame, mkF, argsToLocals, Value.category]; done) | rfl
theorem pd_4 : parseMethodDescriptor "()B" = some ⟨[], some .byte⟩ := by decide +kernel
def Q_lg0 (Z : State) (oa : Addr) (vcs : Int32) (vf : Value) (ob : Addr) (kb : ClassId) (zl : Int32) (vs : List Value) (h0 : Heap) (n0 : Nat) (v : Option Value) (h : Heap) (L : List Loc) : Prop := ∃ z : Int32, v = some (.int z) ∧ (z.toInt = zl.toInt / 1) ∧ Fr n0 L ∧ h = h0
theorem rm_lg0 (l : Launch) (Z : State) (a0 : Array Value) (hw : ∀ d ∈ tables_1, d.before a0 Z = true) (ws : List Jvm.Cond) (oa : Addr) (vcs : Int32) (vf : Value) (ob : Addr) (kb : ClassId) (zl : Int32) (vs : List Value) (h0 : Heap) (n0 : Nat) (Z0 : n0 ≤ h0.size) (Os : own_st Z h0 vcs vf) (Es : Exa Z h0 oa "java/lang/String") (Fc : Fld Z h0 oa "java/lang/String" "coder" "B" (.int 0)) (Fv : Fld Z h0 oa "java/lang/String" "value" "[B" (.ref ob)) (Vb : Arv Z h0 ob kb .byte zl vs (.int 0)) :
    MetFree l yn13 (head1 (Jvm.Cond.code yn13 kc13 1 (some .int) :: ws) ⟨1, 0, 0, 13⟩) (fun a U => a = #[(.ref oa)] ∧ Z.Warmed39 U.vm ∧ U.heap = h0) (fun _ _ _ _ _ => True) (fun _ U o U' => ∃ v L, o = .returned v ∧ Q_lg0 Z oa vcs vf ob kb zl vs h0 n0 v U'.heap L ∧ FrameEnd U o U' L 0 0) := by
  refine MetFree.of_bodySF (plainFor_of_name pn_1) hisR ?_
  intro p e s m args below meth c s₁ Bd hml0 hP hK
  obtain ⟨rfl, hZ, hh⟩ := hP
  have hx := Bd.exec
  have hby := Bd.bytes
  have hml : c.maxLocals = 1 := hml0
  have hown : s.vm.findClass "java/lang/String" = some m.cls := findClass_of_methodNamed Bd.named
  have hnm := (name_of_methodNamed Bd.named Bd.method).1
  have X0 : Stand p l e ⟨1, 0, 0, 13⟩ s m #[(.ref oa)] below meth c s₁ [] 0 0 := Stand.of_body Bd
  have e0 : s₁.heap = h0 := by rw [← hh, Bd.state]; rfl
  have N0 := Fr.nil n0
  obtain ⟨SS, hSS⟩ : ∃ S, S = s₁.setTop (entryFrame m #[(.ref oa)] 1) := ⟨_, rfl⟩
  have pre0 : oP p e below (s₁.setTop (mkF m 0 #[.val (.ref oa)] [])) (SS) := by
    rw [hSS]; exact fun t k => castTop (ef_rm_lg0 m oa) k
  obtain ⟨T1, X1, e1, st1⟩ := getF X0 hx hZ hown (host := "") (Or.inl (ow hw 25 rfl)) Via.refl e0 Fv (g := (mkF m 1 #[.val (.ref oa)] [(.ref oa)])) rfl rfl (hb hby d15_1)
  obtain ⟨cl2, Ar2, q2, S2, M2, H2, G2⟩ := id Vb
  obtain ⟨cq3, kq3, q3a, q3b, q3c⟩ := isOf hZ e1 Es
  obtain ⟨_, _, ⟨T3, L3, k3, n3⟩, -, X3, ⟨Lc3, hQ3, l3, y3, z3⟩, st3⟩ := X1.virtualBack hx (y := yn12) (z := yn12) hown (mvT hZ (ow hw 79 rfl)) (mvT hZ (ow hw 80 rfl)) (notFace_of_selects (args := #[]) (mvT hZ (ow hw 82 rfl))) (mvT hZ (ow hw 82 rfl)) (mvT hZ (ow hw 81 rfl)) (by decide) (backOf (W := 1) (rm_cod0 l Z a0 hw [] oa vcs vf h0 n0 Z0 Os Fc) hZ (ow hw 83 rfl) (ow hw 8 rfl) (by decide) (by decide)) q3a q3c (g := (mkF m 6 #[.val (.ref oa)] [(.ref oa), (.int zl)])) rfl (by rw [hml]; rfl) (Steps.refl _) (argsL := []) (rest := [(.int zl)]) (lenOf pd_4 rfl) rfl (by exact Nat.le_of_eq rfl) (hb hby d15_6) (fun _ _ => ⟨rfl, e1, (by decide : 0 + 0 ≤ _), (by decide : 0 + 0 ≤ _)⟩)
  dsimp only [Pt.U, Pt.locs, Pt.cells, Pt.slots] at X3 l3 y3 z3 st3 hQ3
  rw [l3, y3, z3] at X3
  obtain ⟨zc, rfl, hzc, N3q, e3⟩ := hQ3
  have N3 := Fr.app N0 N3q
  have pre4 : oP p e below (T3.setTop (mkF m 9 #[.val (.ref oa)] [(.int zc), (.int zl)])) (SS) := fun t kt => by
    refine pre0 _ ?_
    refine XS.aloadN X0.here hx rfl (hb hby d15_0) rfl rfl ?_
    refine st1 _ ?_
    refine X1.arraylength hx (by rw [e1]; exact Ar2.1) (State.isArrayOf_alike hZ.alike Ar2.2.1) (g := (mkF m 4 #[.val (.ref oa)] [(.ref ob)])) rfl rfl (hb hby d15_4) _ ?_
    rw [len_of S2 M2]
    refine XS.aloadN X1.here hx rfl (hb hby d15_5) rfl rfl ?_
    refine st3.trans ?_
    exact kt
  subst hzc
  have pre5 : oP p e below (T3.setTop (mkF m 9 #[.val (.ref oa)] [(.int 0), (.int zl)])) (SS) := pre4
  subst hSS
  obtain ⟨fs, hr, q1, q2, q3, q4⟩ := X3.leave (v := some (.int (zl >>> ((0 : Int32) &&& 31)))) (fun h => by rw [Bd.returns] at h; cases h)
  refine ⟨_, _, pre5 _ ?_, q1, q2, _, _, rfl, ?_, ⟨_, rfl⟩, q3, q4.mono (by decide) (by decide)⟩
  · refine XS.ishr X3.here hx rfl (hb hby d15_9) rfl ?_
    exact retI X3 hx Bd.returns (hb hby d15_10) hr
  · show Q_lg0 Z _ _ _ _ _ _ _ h0 n0 _ T3.heap _
    rw [e3]
    exact ⟨_, rfl, by have := rng32 zl; have : ((zl >>> ((0 : Int32) &&& 31))).toInt = zl.toInt / 1 := c_ishr zl (0 : Int32) 0 (by decide); omega, N3, rfl⟩
theorem ef_rm_cod1 (m : MethodId) (x0 : Addr) : entryFrame m #[(.ref x0)] 1 = mkF m 0 #[.val (.ref x0)] [] := by first | (simp [entryFrame, mkF, argsToLocals, Value.category]; done) | rfl
def Q_cod1 (Z : State) (oa : Addr) (vcs : Int32) (vf : Value) (h0 : Heap) (n0 : Nat) (v : Option Value) (h : Heap) (L : List Loc) : Prop := ∃ z : Int32, v = some (.int z) ∧ (z = (1 : Int32)) ∧ Fr n0 L ∧ h = h0
theorem rm_cod1 (l : Launch) (Z : State) (a0 : Array Value) (hw : ∀ d ∈ tables_1, d.before a0 Z = true) (ws : List Jvm.Cond) (oa : Addr) (vcs : Int32) (vf : Value) (h0 : Heap) (n0 : Nat) (Z0 : n0 ≤ h0.size) (Os : own_st Z h0 vcs vf) (Fc : Fld Z h0 oa "java/lang/String" "coder" "B" (.int 1)) :
    MetFree l yn12 (head1 (Jvm.Cond.code yn12 kc12 1 (some .byte) :: ws) ⟨0, 0, 0, 0⟩) (fun a U => a = #[(.ref oa)] ∧ Z.Warmed39 U.vm ∧ U.heap = h0) (fun _ _ _ _ _ => True) (fun _ U o U' => ∃ v L, o = .returned v ∧ Q_cod1 Z oa vcs vf h0 n0 v U'.heap L ∧ FrameEnd U o U' L 0 0) := by
  refine MetFree.of_bodySF (plainFor_of_name pn_1) hisR ?_
  intro p e s m args below meth c s₁ Bd hml0 hP hK
  obtain ⟨rfl, hZ, hh⟩ := hP
  have hx := Bd.exec
  have hby := Bd.bytes
  have hml : c.maxLocals = 1 := hml0
  have hown : s.vm.findClass "java/lang/String" = some m.cls := findClass_of_methodNamed Bd.named
  have hnm := (name_of_methodNamed Bd.named Bd.method).1
  have X0 : Stand p l e ⟨0, 0, 0, 0⟩ s m #[(.ref oa)] below meth c s₁ [] 0 0 := Stand.of_body Bd
  have e0 : s₁.heap = h0 := by rw [← hh, Bd.state]; rfl
  have N0 := Fr.nil n0
  obtain ⟨SS, hSS⟩ : ∃ S, S = s₁.setTop (entryFrame m #[(.ref oa)] 1) := ⟨_, rfl⟩
  have pre0 : oP p e below (s₁.setTop (mkF m 0 #[.val (.ref oa)] [])) (SS) := by
    rw [hSS]; exact fun t k => castTop (ef_rm_cod1 m oa) k
  obtain ⟨T1, X1, e1, st1⟩ := getS2 X0 hx hZ hown (host := "") (Or.inl (ow hw 36 rfl)) Via.refl e0 Os.1 (g := (mkF m 0 #[.val (.ref oa)] [])) rfl (hb hby d16_0)
  have hc3_2 : ¬ (vcs.toInt = (0 : Int)) := by (have q := Os.2.1; omega)
  obtain ⟨T3, X3, e3, st3⟩ := getF X1 hx hZ hown (host := "") (Or.inl (ow hw 26 rfl)) Via.refl e1 Fc (g := (mkF m 7 #[.val (.ref oa)] [(.ref oa)])) rfl rfl (hb hby d16_7)
  subst hSS
  obtain ⟨fs, hr, q1, q2, q3, q4⟩ := X3.leave (v := some (.int 1)) (fun h => by rw [Bd.returns] at h; cases h)
  refine ⟨_, _, pre0 _ ?_, q1, q2, _, _, rfl, ?_, ⟨_, rfl⟩, q3, q4.mono (by decide) (by decide)⟩
  · refine st1 _ ?_
    refine XS.ifNo X1.here hx rfl (hb hby d16_3) rfl (own_if (own_feq (a := vcs) (b := (0 : Int32)) rfl (by decide) hc3_2).1) ?_
    refine XS.aloadN X1.here hx rfl (hb hby d16_6) rfl rfl ?_
    refine st3 _ ?_
    refine XS.goto X3.here hx rfl (pc0 := 10) (pc' := 14) rfl (hb hby d16_10) (by decide) (by decide) ?_
    exact retN X3 hx (t := .byte) Bd.returns (by simp) (hb hby d16_14) hr
  · show Q_cod1 Z _ _ _ h0 n0 _ T3.heap _
    rw [e3]
    exact ⟨_, rfl, rfl, N0, rfl⟩
theorem ef_rm_lg1 (m : MethodId) (x0 : Addr) : entryFrame m #[(.ref x0)] 1 = mkF m 0 #[.val (.ref x0)] [] := by first | (simp [entryFrame, mkF, argsToLocals, Value.category]; done) | rfl
def Q_lg1 (Z : State) (oa : Addr) (vcs : Int32) (vf : Value) (ob : Addr) (kb : ClassId) (zl : Int32) (vs : List Value) (h0 : Heap) (n0 : Nat) (v : Option Value) (h : Heap) (L : List Loc) : Prop := ∃ z : Int32, v = some (.int z) ∧ (z.toInt = zl.toInt / 2) ∧ Fr n0 L ∧ h = h0
theorem rm_lg1 (l : Launch) (Z : State) (a0 : Array Value) (hw : ∀ d ∈ tables_1, d.before a0 Z = true) (ws : List Jvm.Cond) (oa : Addr) (vcs : Int32) (vf : Value) (ob : Addr) (kb : ClassId) (zl : Int32) (vs : List Value) (h0 : Heap) (n0 : Nat) (Z0 : n0 ≤ h0.size) (Os : own_st Z h0 vcs vf) (Es : Exa Z h0 oa "java/lang/String") (Fc : Fld Z h0 oa "java/lang/String" "coder" "B" (.int 1)) (Fv : Fld Z h0 oa "java/lang/String" "value" "[B" (.ref ob)) (Vb : Arv Z h0 ob kb .byte zl vs (.int 0)) :
    MetFree l yn13 (head1 (Jvm.Cond.code yn13 kc13 1 (some .int) :: ws) ⟨1, 0, 0, 13⟩) (fun a U => a = #[(.ref oa)] ∧ Z.Warmed39 U.vm ∧ U.heap = h0) (fun _ _ _ _ _ => True) (fun _ U o U' => ∃ v L, o = .returned v ∧ Q_lg1 Z oa vcs vf ob kb zl vs h0 n0 v U'.heap L ∧ FrameEnd U o U' L 0 0) := by
  refine MetFree.of_bodySF (plainFor_of_name pn_1) hisR ?_
  intro p e s m args below meth c s₁ Bd hml0 hP hK
  obtain ⟨rfl, hZ, hh⟩ := hP
  have hx := Bd.exec
  have hby := Bd.bytes
  have hml : c.maxLocals = 1 := hml0
  have hown : s.vm.findClass "java/lang/String" = some m.cls := findClass_of_methodNamed Bd.named
  have hnm := (name_of_methodNamed Bd.named Bd.method).1
  have X0 : Stand p l e ⟨1, 0, 0, 13⟩ s m #[(.ref oa)] below meth c s₁ [] 0 0 := Stand.of_body Bd
  have e0 : s₁.heap = h0 := by rw [← hh, Bd.state]; rfl
  have N0 := Fr.nil n0
  obtain ⟨SS, hSS⟩ : ∃ S, S = s₁.setTop (entryFrame m #[(.ref oa)] 1) := ⟨_, rfl⟩
  have pre0 : oP p e below (s₁.setTop (mkF m 0 #[.val (.ref oa)] [])) (SS) := by
    rw [hSS]; exact fun t k => castTop (ef_rm_lg1 m oa) k
  obtain ⟨T1, X1, e1, st1⟩ := getF X0 hx hZ hown (host := "") (Or.inl (ow hw 25 rfl)) Via.refl e0 Fv (g := (mkF m 1 #[.val (.ref oa)] [(.ref oa)])) rfl rfl (hb hby d15_1)
  obtain ⟨cl2, Ar2, q2, S2, M2, H2, G2⟩ := id Vb
  obtain ⟨cq3, kq3, q3a, q3b, q3c⟩ := isOf hZ e1 Es
  obtain ⟨_, _, ⟨T3, L3, k3, n3⟩, -, X3, ⟨Lc3, hQ3, l3, y3, z3⟩, st3⟩ := X1.virtualBack hx (y := yn12) (z := yn12) hown (mvT hZ (ow hw 79 rfl)) (mvT hZ (ow hw 80 rfl)) (notFace_of_selects (args := #[]) (mvT hZ (ow hw 82 rfl))) (mvT hZ (ow hw 82 rfl)) (mvT hZ (ow hw 81 rfl)) (by decide) (backOf (W := 1) (rm_cod1 l Z a0 hw [] oa vcs vf h0 n0 Z0 Os Fc) hZ (ow hw 83 rfl) (ow hw 8 rfl) (by decide) (by decide)) q3a q3c (g := (mkF m 6 #[.val (.ref oa)] [(.ref oa), (.int zl)])) rfl (by rw [hml]; rfl) (Steps.refl _) (argsL := []) (rest := [(.int zl)]) (lenOf pd_4 rfl) rfl (by exact Nat.le_of_eq rfl) (hb hby d15_6) (fun _ _ => ⟨rfl, e1, (by decide : 0 + 0 ≤ _), (by decide : 0 + 0 ≤ _)⟩)
  dsimp only [Pt.U, Pt.locs, Pt.cells, Pt.slots] at X3 l3 y3 z3 st3 hQ3
  rw [l3, y3, z3] at X3
  obtain ⟨zc, rfl, hzc, N3q, e3⟩ := hQ3
  have N3 := Fr.app N0 N3q
  have pre4 : oP p e below (T3.setTop (mkF m 9 #[.val (.ref oa)] [(.int zc), (.int zl)])) (SS) := fun t kt => by
    refine pre0 _ ?_
    refine XS.aloadN X0.here hx rfl (hb hby d15_0) rfl rfl ?_
    refine st1 _ ?_
    refine X1.arraylength hx (by rw [e1]; exact Ar2.1) (State.isArrayOf_alike hZ.alike Ar2.2.1) (g := (mkF m 4 #[.val (.ref oa)] [(.ref ob)])) rfl rfl (hb hby d15_4) _ ?_
    rw [len_of S2 M2]
    refine XS.aloadN X1.here hx rfl (hb hby d15_5) rfl rfl ?_
    refine st3.trans ?_
    exact kt
  subst hzc
  have pre5 : oP p e below (T3.setTop (mkF m 9 #[.val (.ref oa)] [(.int 1), (.int zl)])) (SS) := pre4
  subst hSS
  obtain ⟨fs, hr, q1, q2, q3, q4⟩ := X3.leave (v := some (.int (zl >>> ((1 : Int32) &&& 31)))) (fun h => by rw [Bd.returns] at h; cases h)
  refine ⟨_, _, pre5 _ ?_, q1, q2, _, _, rfl, ?_, ⟨_, rfl⟩, q3, q4.mono (by decide) (by decide)⟩
  · refine XS.ishr X3.here hx rfl (hb hby d15_9) rfl ?_
    exact retI X3 hx Bd.returns (hb hby d15_10) hr
  · show Q_lg1 Z _ _ _ _ _ _ _ h0 n0 _ T3.heap _
    rw [e3]
    exact ⟨_, rfl, by have := rng32 zl; have : ((zl >>> ((1 : Int32) &&& 31))).toInt = zl.toInt / 2 := c_ishr zl (1 : Int32) 1 (by decide); omega, N3, rfl⟩
theorem d21_0 : decode kc14 0 = .ok (.iload_n 1, 1) := by decide +kernel
theorem d21_1 : decode kc14 1 = .ok (.i2b, 1) := by decide +kernel
theorem d21_2 : decode kc14 2 = .ok (.istore 4, 2) := by decide +kernel
theorem d21_4 : decode kc14 4 = .ok (.iload_n 2, 1) := by decide +kernel
theorem d21_5 : decode kc14 5 = .ok (.istore 5, 2) := by decide +kernel
theorem d21_7 : decode kc14 7 = .ok (.iload 5, 2) := by decide +kernel
theorem d21_9 : decode kc14 9 = .ok (.iload_n 3, 1) := by decide +kernel
theorem d21_10 : decode kc14 10 = .ok (.if_icmp .ge 21, 3) := by decide +kernel
theorem d21_13 : decode kc14 13 = .ok (.aload_n 0, 1) := by decide +kernel
theorem d21_14 : decode kc14 14 = .ok (.iload 5, 2) := by decide +kernel
theorem d21_16 : decode kc14 16 = .ok (.baload, 1) := by decide +kernel
theorem d21_17 : decode kc14 17 = .ok (.iload 4, 2) := by decide +kernel
theorem d21_19 : decode kc14 19 = .ok (.if_icmp .ne 6, 3) := by decide +kernel
theorem d21_22 : decode kc14 22 = .ok (.iload 5, 2) := by decide +kernel
theorem d21_24 : decode kc14 24 = .ok (.ireturn, 1) := by decide +kernel
theorem d21_25 : decode kc14 25 = .ok (.iinc 5 1, 3) := by decide +kernel
theorem d21_28 : decode kc14 28 = .ok (.goto (-21), 3) := by decide +kernel
theorem d21_31 : decode kc14 31 = .ok (.iconst (-1), 1) := by decide +kernel
theorem d21_32 : decode kc14 32 = .ok (.ireturn, 1) := by decide +kernel
theorem ef_rm_ioc1 (m : MethodId) (x0 : Addr) : entryFrame m #[(.ref x0), (.int 0), (.int 0), (.int 1)] 6 = mkF m 0 #[.val (.ref x0), .val (.int 0), .val (.int 0), .val (.int 1), .unset, .unset] [] := by first | (simp [entryFrame, mkF, argsToLocals, Value.category]; done) | rfl
def Q_ioc1 (Z : State) (ob : Addr) (vcs : Int32) (vf : Value) (kb : ClassId) (bb0 : Int32) (h0 : Heap) (n0 : Nat) (v : Option Value) (h : Heap) (L : List Loc) : Prop := ∃ z : Int32, v = some (.int z) ∧ ((0 ≤ z.toInt ∧ (bb0.toInt = 0)) ∨ (z.toInt < 0 ∧ ¬ (bb0.toInt = 0))) ∧ Fr n0 L ∧ h = h0
theorem rm_ioc1 (l : Launch) (Z : State) (a0 : Array Value) (hw : ∀ d ∈ tables_1, d.before a0 Z = true) (ws : List Jvm.Cond) (ob : Addr) (vcs : Int32) (vf : Value) (kb : ClassId) (bb0 : Int32) (h0 : Heap) (n0 : Nat) (Z0 : n0 ≤ h0.size) (Os : own_st Z h0 vcs vf) (Vb : Arv Z h0 ob kb .byte (1 : Int32) [(.int bb0)] (.int 0)) :
    MetFree l yn14 (head1 (Jvm.Cond.code yn14 kc14 6 (some .int) :: ws) ⟨0, 0, 0, 0⟩) (fun a U => a = #[(.ref ob), (.int 0), (.int 0), (.int 1)] ∧ Z.Warmed39 U.vm ∧ U.heap = h0) (fun _ _ _ _ _ => True) (fun _ U o U' => ∃ v L, o = .returned v ∧ Q_ioc1 Z ob vcs vf kb bb0 h0 n0 v U'.heap L ∧ FrameEnd U o U' L 0 0) := by
  refine MetFree.of_bodySF (plainFor_of_name pn_2) hisR ?_
  intro p e s m args below meth c s₁ Bd hml0 hP hK
  obtain ⟨rfl, hZ, hh⟩ := hP
  have hx := Bd.exec
  have hby := Bd.bytes
  have hml : c.maxLocals = 6 := hml0
  have hown : s.vm.findClass "java/lang/StringLatin1" = some m.cls := findClass_of_methodNamed Bd.named
  have hnm := (name_of_methodNamed Bd.named Bd.method).1
  have X0 : Stand p l e ⟨0, 0, 0, 0⟩ s m #[(.ref ob), (.int 0), (.int 0), (.int 1)] below meth c s₁ [] 0 0 := Stand.of_body Bd
  have e0 : s₁.heap = h0 := by rw [← hh, Bd.state]; rfl
  have N0 := Fr.nil n0
  obtain ⟨SS, hSS⟩ : ∃ S, S = s₁.setTop (entryFrame m #[(.ref ob), (.int 0), (.int 0), (.int 1)] 6) := ⟨_, rfl⟩
  have pre0 : oP p e below (s₁.setTop (mkF m 0 #[.val (.ref ob), .val (.int 0), .val (.int 0), .val (.int 1), .unset, .unset] [])) (SS) := by
    rw [hSS]; exact fun t k => castTop (ef_rm_ioc1 m ob) k
  have hc10_1 : (0 : Int) < (1 : Int) := by decide
  obtain ⟨cl2, Ar2, q2, S2, M2, H2, G2⟩ := id Vb
  have hin2 : ¬ ((0 : Int32) < 0 ∨ cl2.slots.size ≤ ((0 : Int32)).toNatClampNeg) := inb_of S2 ⟨by decide, by decide⟩
  have hat2 : cl2.slots[((0 : Int32)).toNatClampNeg]? = some (.int bb0) := Has.at H2 hin2 rfl
  have pre4 : oP p e below (s₁.setTop (mkF m 19 #[.val (.ref ob), .val (.int 0), .val (.int 0), .val (.int 1), .val (.int 0), .val (.int 0)] [(.int 0), (.int bb0)])) (SS) := fun t kt => by
    refine pre0 _ ?_
    refine XS.iloadN X0.here hx rfl (hb hby d21_0) rfl ?_
    refine XS.i2b X0.here hx rfl (hb hby d21_1) rfl ?_
    refine XS.istore X0.here hx rfl (hb hby d21_2) rfl (l' := #[.val (.ref ob), .val (.int 0), .val (.int 0), .val (.int 1), .val (.int 0), .unset]) rfl ?_
    refine XS.iloadN X0.here hx rfl (hb hby d21_4) rfl ?_
    refine XS.istore X0.here hx rfl (hb hby d21_5) rfl (l' := #[.val (.ref ob), .val (.int 0), .val (.int 0), .val (.int 1), .val (.int 0), .val (.int 0)]) rfl ?_
    refine XS.iload X0.here hx rfl (hb hby d21_7) rfl ?_
    refine XS.iloadN X0.here hx rfl (hb hby d21_9) rfl ?_
    refine XS.icmpNo X0.here hx rfl (hb hby d21_10) rfl (own_tlt (a := (0 : Int32)) (b := (1 : Int32)) (by decide) (by decide) hc10_1).2.1 ?_
    refine XS.aloadN X0.here hx rfl (hb hby d21_13) rfl rfl ?_
    refine XS.iload X0.here hx rfl (hb hby d21_14) rfl ?_
    refine X0.baloadBytes hx (j := (0 : Int32)) (v := (.int bb0)) (by rw [e0]; exact Ar2.1) (State.isArrayOf_alike hZ.alike Ar2.2.1) Ar2.2.2 hin2 hat2 (g := (mkF m 16 #[.val (.ref ob), .val (.int 0), .val (.int 0), .val (.int 1), .val (.int 0), .val (.int 0)] [(.int 0), (.ref ob)])) rfl rfl (hb hby d21_16) _ ?_
    refine XS.iload X0.here hx rfl (hb hby d21_17) rfl ?_
    exact kt
  by_cases hc19_3 : bb0.toInt = (0 : Int)
  · subst hSS
    obtain ⟨fs, hr, q1, q2, q3, q4⟩ := X0.leave (v := some (.int 0)) (fun h => by rw [Bd.returns] at h; cases h)
    refine ⟨_, _, pre4 _ ?_, q1, q2, _, _, rfl, ?_, ⟨_, rfl⟩, q3, q4.mono (by decide) (by decide)⟩
    · refine XS.icmpNo X0.here hx rfl (hb hby d21_19) rfl (own_teq (a := bb0) (b := (0 : Int32)) rfl (by decide) hc19_3).2 ?_
      refine XS.iload X0.here hx rfl (hb hby d21_22) rfl ?_
      exact retI X0 hx Bd.returns (hb hby d21_24) hr
    · show Q_ioc1 Z _ _ _ _ _ h0 n0 _ s₁.heap _
      rw [e0]
      exact ⟨_, rfl, by have iv : ((0 : Int32)).toInt = (0 : Int) := (by decide); omega, N0, rfl⟩
  · have hc10_5 : ¬ ((1 : Int) < (1 : Int)) := by decide
    subst hSS
    obtain ⟨fs, hr, q1, q2, q3, q4⟩ := X0.leave (v := some (.int (-1 : Int32))) (fun h => by rw [Bd.returns] at h; cases h)
    refine ⟨_, _, pre4 _ ?_, q1, q2, _, _, rfl, ?_, ⟨_, rfl⟩, q3, q4.mono (by decide) (by decide)⟩
    · refine XS.icmpYes X0.here hx rfl (pc0 := 19) (pc' := 25) rfl (hb hby d21_19) rfl (own_feq (a := bb0) (b := (0 : Int32)) rfl (by decide) hc19_3).2 (by decide) (by decide) ?_
      refine XS.iinc X0.here hx rfl (hb hby d21_25) rfl (l' := #[.val (.ref ob), .val (.int 0), .val (.int 0), .val (.int 1), .val (.int 0), .val (.int 1)]) rfl ?_
      refine XS.goto X0.here hx rfl (pc0 := 28) (pc' := 7) rfl (hb hby d21_28) (by decide) (by decide) ?_
      refine XS.iload X0.here hx rfl (hb hby d21_7) rfl ?_
      refine XS.iloadN X0.here hx rfl (hb hby d21_9) rfl ?_
      refine XS.icmpYes X0.here hx rfl (pc0 := 10) (pc' := 31) rfl (hb hby d21_10) rfl (own_flt (a := (1 : Int32)) (b := (1 : Int32)) (by decide) (by decide) hc10_5).2.1 (by decide) (by decide) ?_
      refine XS.iconst X0.here hx rfl (hb hby d21_31) ?_
      show Steps p.tables e below (s₁.setTop (mkF m 32 #[.val (.ref ob), .val (.int 0), .val (.int 0), .val (.int 1), .val (.int 0), .val (.int 1)] [(.int (-1 : Int32))])) _
      exact retI X0 hx Bd.returns (hb hby d21_32) hr
    · show Q_ioc1 Z _ _ _ _ _ h0 n0 _ s₁.heap _
      rw [e0]
      exact ⟨_, rfl, by have iv : ((-1 : Int32)).toInt = (-1 : Int) := (by decide); omega, N0, rfl⟩
theorem d33_0 : decode kc15 0 = .ok (.iload_n 2, 1) := by decide +kernel
theorem d33_1 : decode kc15 1 = .ok (.istore 4, 2) := by decide +kernel
theorem d33_3 : decode kc15 3 = .ok (.iload 4, 2) := by decide +kernel
theorem d33_5 : decode kc15 5 = .ok (.iload_n 3, 1) := by decide +kernel
theorem d33_6 : decode kc15 6 = .ok (.if_icmp .ge 22, 3) := by decide +kernel
theorem d33_9 : decode kc15 9 = .ok (.aload_n 0, 1) := by decide +kernel
theorem d33_10 : decode kc15 10 = .ok (.iload 4, 2) := by decide +kernel
theorem d33_12 : decode kc15 12 = .ok (.invokestatic 71, 3) := by decide +kernel
theorem d33_15 : decode kc15 15 = .ok (.iload_n 1, 1) := by decide +kernel
theorem d33_16 : decode kc15 16 = .ok (.if_icmp .ne 6, 3) := by decide +kernel
theorem d33_19 : decode kc15 19 = .ok (.iload 4, 2) := by decide +kernel
theorem d33_21 : decode kc15 21 = .ok (.ireturn, 1) := by decide +kernel
theorem d33_22 : decode kc15 22 = .ok (.iinc 4 1, 3) := by decide +kernel
theorem d33_25 : decode kc15 25 = .ok (.goto (-22), 3) := by decide +kernel
theorem d33_28 : decode kc15 28 = .ok (.iconst (-1), 1) := by decide +kernel
theorem d33_29 : decode kc15 29 = .ok (.ireturn, 1) := by decide +kernel
theorem ef_rm_iu1 (m : MethodId) (x0 : Addr) : entryFrame m #[(.ref x0), (.int 0), (.int 0), (.int 1)] 5 = mkF m 0 #[.val (.ref x0), .val (.int 0), .val (.int 0), .val (.int 1), .unset] [] := by first | (simp [entryFrame, mkF, argsToLocals, Value.category]; done) | rfl
theorem pd_5 : parseMethodDescriptor "([BI)C" = some ⟨[(.array .byte), .int], some .char⟩ := by decide +kernel
def Q_iu1 (Z : State) (ob : Addr) (vcs : Int32) (vf : Value) (kb : ClassId) (lo0 : Int32) (hi0 : Int32) (h0 : Heap) (n0 : Nat) (v : Option Value) (h : Heap) (L : List Loc) : Prop := ∃ z : Int32, v = some (.int z) ∧ ((0 ≤ z.toInt ∧ ((lo0.toInt % 256 + 256 * (hi0.toInt % 256)) = 0)) ∨ (z.toInt < 0 ∧ ¬ ((lo0.toInt % 256 + 256 * (hi0.toInt % 256)) = 0))) ∧ Fr n0 L ∧ h = h0
theorem rm_iu1 (l : Launch) (Z : State) (a0 : Array Value) (hw : ∀ d ∈ tables_1, d.before a0 Z = true) (ws : List Jvm.Cond) (ob : Addr) (vcs : Int32) (vf : Value) (kb : ClassId) (lo0 : Int32) (hi0 : Int32) (h0 : Heap) (n0 : Nat) (Z0 : n0 ≤ h0.size) (Os : own_st Z h0 vcs vf) (Vb : Arv Z h0 ob kb .byte (2 : Int32) [(.int lo0), (.int hi0)] (.int 0)) :
    MetFree l yn15 (head1 (Jvm.Cond.code yn15 kc15 5 (some .int) :: ws) ⟨1, 0, 0, 13⟩) (fun a U => a = #[(.ref ob), (.int 0), (.int 0), (.int 1)] ∧ Z.Warmed39 U.vm ∧ U.heap = h0) (fun _ _ _ _ _ => True) (fun _ U o U' => ∃ v L, o = .returned v ∧ Q_iu1 Z ob vcs vf kb lo0 hi0 h0 n0 v U'.heap L ∧ FrameEnd U o U' L 0 0) := by
  refine MetFree.of_bodySF (plainFor_of_name pn_3) hisR ?_
  intro p e s m args below meth c s₁ Bd hml0 hP hK
  obtain ⟨rfl, hZ, hh⟩ := hP
  have hx := Bd.exec
  have hby := Bd.bytes
  have hml : c.maxLocals = 5 := hml0
  have hown : s.vm.findClass "java/lang/StringUTF16" = some m.cls := findClass_of_methodNamed Bd.named
  have hnm := (name_of_methodNamed Bd.named Bd.method).1
  have X0 : Stand p l e ⟨1, 0, 0, 13⟩ s m #[(.ref ob), (.int 0), (.int 0), (.int 1)] below meth c s₁ [] 0 0 := Stand.of_body Bd
  have e0 : s₁.heap = h0 := by rw [← hh, Bd.state]; rfl
  have N0 := Fr.nil n0
  obtain ⟨SS, hSS⟩ : ∃ S, S = s₁.setTop (entryFrame m #[(.ref ob), (.int 0), (.int 0), (.int 1)] 5) := ⟨_, rfl⟩
  have pre0 : oP p e below (s₁.setTop (mkF m 0 #[.val (.ref ob), .val (.int 0), .val (.int 0), .val (.int 1), .unset] [])) (SS) := by
    rw [hSS]; exact fun t k => castTop (ef_rm_iu1 m ob) k
  have hc6_1 : (0 : Int) < (1 : Int) := by decide
  obtain ⟨_, _, ⟨T2, L2, k2, n2⟩, -, X2, ⟨Lc2, hQ2, l2, y2, z2⟩, st2⟩ := Jvm.LawKit.callS X0 hx (y := yn7) hown (mvT hZ (ow hw 116 rfl)) (mvT hZ (ow hw 117 rfl)) (mvT hZ (ow hw 39 rfl)) (mvT hZ (ow hw 118 rfl)) (by decide) (backOf (W := 0) (rm_gc l Z a0 hw [] ob (0 : Int32) vcs vf kb (2 : Int32) [(.int lo0), (.int hi0)] lo0 hi0 0 h0 n0 Z0 Os Vb (by decide) (by decide) (by decide) rfl rfl) hZ (ow hw 118 rfl) (ow hw 39 rfl) (by decide) (by decide)) (g := (mkF m 12 #[.val (.ref ob), .val (.int 0), .val (.int 0), .val (.int 1), .val (.int 0)] [(.int 0), (.ref ob)])) rfl (by rw [hml]; rfl) (argsL := [(.ref ob), (.int 0)]) (rest := []) (lenOf pd_5 rfl) rfl (by exact Nat.le_of_eq rfl) (hb hby d33_12) (fun _ _ => ⟨rfl, e0, (by decide : 0 + 0 ≤ _), (by decide : 0 + 0 ≤ _)⟩)
  dsimp only [Pt.U, Pt.locs, Pt.cells, Pt.slots] at X2 l2 y2 z2 st2 hQ2
  rw [l2, y2, z2] at X2
  obtain ⟨g0, rfl, hg0, N2q, e2⟩ := hQ2
  have N2 := Fr.app N0 N2q
  have pre4 : oP p e below (T2.setTop (mkF m 16 #[.val (.ref ob), .val (.int 0), .val (.int 0), .val (.int 1), .val (.int 0)] [(.int 0), (.int g0)])) (SS) := fun t kt => by
    refine pre0 _ ?_
    refine XS.iloadN X0.here hx rfl (hb hby d33_0) rfl ?_
    refine XS.istore X0.here hx rfl (hb hby d33_1) rfl (l' := #[.val (.ref ob), .val (.int 0), .val (.int 0), .val (.int 1), .val (.int 0)]) rfl ?_
    refine XS.iload X0.here hx rfl (hb hby d33_3) rfl ?_
    refine XS.iloadN X0.here hx rfl (hb hby d33_5) rfl ?_
    refine XS.icmpNo X0.here hx rfl (hb hby d33_6) rfl (own_tlt (a := (0 : Int32)) (b := (1 : Int32)) (by decide) (by decide) hc6_1).2.1 ?_
    refine XS.aloadN X0.here hx rfl (hb hby d33_9) rfl rfl ?_
    refine XS.iload X0.here hx rfl (hb hby d33_10) rfl ?_
    refine st2 _ ?_
    refine XS.iloadN X2.here hx rfl (hb hby d33_15) rfl ?_
    exact kt
  by_cases hc16_3 : g0.toInt = (0 : Int)
  · subst hSS
    obtain ⟨fs, hr, q1, q2, q3, q4⟩ := X2.leave (v := some (.int 0)) (fun h => by rw [Bd.returns] at h; cases h)
    refine ⟨_, _, pre4 _ ?_, q1, q2, _, _, rfl, ?_, ⟨_, rfl⟩, q3, q4.mono (by decide) (by decide)⟩
    · refine XS.icmpNo X2.here hx rfl (hb hby d33_16) rfl (own_teq (a := g0) (b := (0 : Int32)) rfl (by decide) hc16_3).2 ?_
      refine XS.iload X2.here hx rfl (hb hby d33_19) rfl ?_
      exact retI X2 hx Bd.returns (hb hby d33_21) hr
    · show Q_iu1 Z _ _ _ _ _ _ h0 n0 _ T2.heap _
      rw [e2]
      exact ⟨_, rfl, by have iv : ((0 : Int32)).toInt = (0 : Int) := (by decide); omega, N2, rfl⟩
  · have hc6_5 : ¬ ((1 : Int) < (1 : Int)) := by decide
    subst hSS
    obtain ⟨fs, hr, q1, q2, q3, q4⟩ := X2.leave (v := some (.int (-1 : Int32))) (fun h => by rw [Bd.returns] at h; cases h)
    refine ⟨_, _, pre4 _ ?_, q1, q2, _, _, rfl, ?_, ⟨_, rfl⟩, q3, q4.mono (by decide) (by decide)⟩
    · refine XS.icmpYes X2.here hx rfl (pc0 := 16) (pc' := 22) rfl (hb hby d33_16) rfl (own_feq (a := g0) (b := (0 : Int32)) rfl (by decide) hc16_3).2 (by decide) (by decide) ?_
      refine XS.iinc X2.here hx rfl (hb hby d33_22) rfl (l' := #[.val (.ref ob), .val (.int 0), .val (.int 0), .val (.int 1), .val (.int 1)]) rfl ?_
      refine XS.goto X2.here hx rfl (pc0 := 25) (pc' := 3) rfl (hb hby d33_25) (by decide) (by decide) ?_
      refine XS.iload X2.here hx rfl (hb hby d33_3) rfl ?_
      refine XS.iloadN X2.here hx rfl (hb hby d33_5) rfl ?_
      refine XS.icmpYes X2.here hx rfl (pc0 := 6) (pc' := 28) rfl (hb hby d33_6) rfl (own_flt (a := (1 : Int32)) (b := (1 : Int32)) (by decide) (by decide) hc6_5).2.1 (by decide) (by decide) ?_
      refine XS.iconst X2.here hx rfl (hb hby d33_28) ?_
      exact retI X2 hx Bd.returns (hb hby d33_29) hr
    · show Q_iu1 Z _ _ _ _ _ _ h0 n0 _ T2.heap _
      rw [e2]
      exact ⟨_, rfl, by have iv : ((-1 : Int32)).toInt = (-1 : Int) := (by decide); omega, N2, rfl⟩
theorem ef_rm_ioc2 (m : MethodId) (x0 : Addr) : entryFrame m #[(.ref x0), (.int 0), (.int 0), (.int 2)] 6 = mkF m 0 #[.val (.ref x0), .val (.int 0), .val (.int 0), .val (.int 2), .unset, .unset] [] := by first | (simp [entryFrame, mkF, argsToLocals, Value.category]; done) | rfl
def Q_ioc2 (Z : State) (ob : Addr) (vcs : Int32) (vf : Value) (kb : ClassId) (bb0 : Int32) (bb1 : Int32) (h0 : Heap) (n0 : Nat) (v : Option Value) (h : Heap) (L : List Loc) : Prop := ∃ z : Int32, v = some (.int z) ∧ ((0 ≤ z.toInt ∧ (bb0.toInt = 0 ∨ bb1.toInt = 0)) ∨ (z.toInt < 0 ∧ ¬ (bb0.toInt = 0 ∨ bb1.toInt = 0))) ∧ Fr n0 L ∧ h = h0
theorem rm_ioc2 (l : Launch) (Z : State) (a0 : Array Value) (hw : ∀ d ∈ tables_1, d.before a0 Z = true) (ws : List Jvm.Cond) (ob : Addr) (vcs : Int32) (vf : Value) (kb : ClassId) (bb0 : Int32) (bb1 : Int32) (h0 : Heap) (n0 : Nat) (Z0 : n0 ≤ h0.size) (Os : own_st Z h0 vcs vf) (Vb : Arv Z h0 ob kb .byte (2 : Int32) [(.int bb0), (.int bb1)] (.int 0)) :
    MetFree l yn14 (head1 (Jvm.Cond.code yn14 kc14 6 (some .int) :: ws) ⟨0, 0, 0, 0⟩) (fun a U => a = #[(.ref ob), (.int 0), (.int 0), (.int 2)] ∧ Z.Warmed39 U.vm ∧ U.heap = h0) (fun _ _ _ _ _ => True) (fun _ U o U' => ∃ v L, o = .returned v ∧ Q_ioc2 Z ob vcs vf kb bb0 bb1 h0 n0 v U'.heap L ∧ FrameEnd U o U' L 0 0) := by
  refine MetFree.of_bodySF (plainFor_of_name pn_2) hisR ?_
  intro p e s m args below meth c s₁ Bd hml0 hP hK
  obtain ⟨rfl, hZ, hh⟩ := hP
  have hx := Bd.exec
  have hby := Bd.bytes
  have hml : c.maxLocals = 6 := hml0
  have hown : s.vm.findClass "java/lang/StringLatin1" = some m.cls := findClass_of_methodNamed Bd.named
  have hnm := (name_of_methodNamed Bd.named Bd.method).1
  have X0 : Stand p l e ⟨0, 0, 0, 0⟩ s m #[(.ref ob), (.int 0), (.int 0), (.int 2)] below meth c s₁ [] 0 0 := Stand.of_body Bd
  have e0 : s₁.heap = h0 := by rw [← hh, Bd.state]; rfl
  have N0 := Fr.nil n0
  obtain ⟨SS, hSS⟩ : ∃ S, S = s₁.setTop (entryFrame m #[(.ref ob), (.int 0), (.int 0), (.int 2)] 6) := ⟨_, rfl⟩
  have pre0 : oP p e below (s₁.setTop (mkF m 0 #[.val (.ref ob), .val (.int 0), .val (.int 0), .val (.int 2), .unset, .unset] [])) (SS) := by
    rw [hSS]; exact fun t k => castTop (ef_rm_ioc2 m ob) k
  have hc10_1 : (0 : Int) < (2 : Int) := by decide
  obtain ⟨cl2, Ar2, q2, S2, M2, H2, G2⟩ := id Vb
  have hin2 : ¬ ((0 : Int32) < 0 ∨ cl2.slots.size ≤ ((0 : Int32)).toNatClampNeg) := inb_of S2 ⟨by decide, by decide⟩
  have hat2 : cl2.slots[((0 : Int32)).toNatClampNeg]? = some (.int bb0) := Has.at H2 hin2 rfl
  have pre4 : oP p e below (s₁.setTop (mkF m 19 #[.val (.ref ob), .val (.int 0), .val (.int 0), .val (.int 2), .val (.int 0), .val (.int 0)] [(.int 0), (.int bb0)])) (SS) := fun t kt => by
    refine pre0 _ ?_
    refine XS.iloadN X0.here hx rfl (hb hby d21_0) rfl ?_
    refine XS.i2b X0.here hx rfl (hb hby d21_1) rfl ?_
    refine XS.istore X0.here hx rfl (hb hby d21_2) rfl (l' := #[.val (.ref ob), .val (.int 0), .val (.int 0), .val (.int 2), .val (.int 0), .unset]) rfl ?_
    refine XS.iloadN X0.here hx rfl (hb hby d21_4) rfl ?_
    refine XS.istore X0.here hx rfl (hb hby d21_5) rfl (l' := #[.val (.ref ob), .val (.int 0), .val (.int 0), .val (.int 2), .val (.int 0), .val (.int 0)]) rfl ?_
    refine XS.iload X0.here hx rfl (hb hby d21_7) rfl ?_
    refine XS.iloadN X0.here hx rfl (hb hby d21_9) rfl ?_
    refine XS.icmpNo X0.here hx rfl (hb hby d21_10) rfl (own_tlt (a := (0 : Int32)) (b := (2 : Int32)) (by decide) (by decide) hc10_1).2.1 ?_
    refine XS.aloadN X0.here hx rfl (hb hby d21_13) rfl rfl ?_
    refine XS.iload X0.here hx rfl (hb hby d21_14) rfl ?_
    refine X0.baloadBytes hx (j := (0 : Int32)) (v := (.int bb0)) (by rw [e0]; exact Ar2.1) (State.isArrayOf_alike hZ.alike Ar2.2.1) Ar2.2.2 hin2 hat2 (g := (mkF m 16 #[.val (.ref ob), .val (.int 0), .val (.int 0), .val (.int 2), .val (.int 0), .val (.int 0)] [(.int 0), (.ref ob)])) rfl rfl (hb hby d21_16) _ ?_
    refine XS.iload X0.here hx rfl (hb hby d21_17) rfl ?_
    exact kt
  by_cases hc19_3 : bb0.toInt = (0 : Int)
  · subst hSS
    obtain ⟨fs, hr, q1, q2, q3, q4⟩ := X0.leave (v := some (.int 0)) (fun h => by rw [Bd.returns] at h; cases h)
    refine ⟨_, _, pre4 _ ?_, q1, q2, _, _, rfl, ?_, ⟨_, rfl⟩, q3, q4.mono (by decide) (by decide)⟩
    · refine XS.icmpNo X0.here hx rfl (hb hby d21_19) rfl (own_teq (a := bb0) (b := (0 : Int32)) rfl (by decide) hc19_3).2 ?_
      refine XS.iload X0.here hx rfl (hb hby d21_22) rfl ?_
      exact retI X0 hx Bd.returns (hb hby d21_24) hr
    · show Q_ioc2 Z _ _ _ _ _ _ h0 n0 _ s₁.heap _
      rw [e0]
      exact ⟨_, rfl, by have iv : ((0 : Int32)).toInt = (0 : Int) := (by decide); omega, N0, rfl⟩
  · have hc10_5 : (1 : Int) < (2 : Int) := by decide
    obtain ⟨cl6, Ar6, q6, S6, M6, H6, G6⟩ := id Vb
    have hin6 : ¬ ((1 : Int32) < 0 ∨ cl6.slots.size ≤ ((1 : Int32)).toNatClampNeg) := inb_of S6 ⟨by decide, by decide⟩
    have hat6 : cl6.slots[((1 : Int32)).toNatClampNeg]? = some (.int bb1) := Has.at H6 hin6 rfl
    have pre8 : oP p e below (s₁.setTop (mkF m 19 #[.val (.ref ob), .val (.int 0), .val (.int 0), .val (.int 2), .val (.int 0), .val (.int 1)] [(.int 0), (.int bb1)])) (SS) := fun t kt => by
      refine pre4 _ ?_
      refine XS.icmpYes X0.here hx rfl (pc0 := 19) (pc' := 25) rfl (hb hby d21_19) rfl (own_feq (a := bb0) (b := (0 : Int32)) rfl (by decide) hc19_3).2 (by decide) (by decide) ?_
      refine XS.iinc X0.here hx rfl (hb hby d21_25) rfl (l' := #[.val (.ref ob), .val (.int 0), .val (.int 0), .val (.int 2), .val (.int 0), .val (.int 1)]) rfl ?_
      refine XS.goto X0.here hx rfl (pc0 := 28) (pc' := 7) rfl (hb hby d21_28) (by decide) (by decide) ?_
      refine XS.iload X0.here hx rfl (hb hby d21_7) rfl ?_
      refine XS.iloadN X0.here hx rfl (hb hby d21_9) rfl ?_
      refine XS.icmpNo X0.here hx rfl (hb hby d21_10) rfl (own_tlt (a := (1 : Int32)) (b := (2 : Int32)) (by decide) (by decide) hc10_5).2.1 ?_
      refine XS.aloadN X0.here hx rfl (hb hby d21_13) rfl rfl ?_
      show Steps p.tables e below (s₁.setTop (mkF m 14 #[.val (.ref ob), .val (.int 0), .val (.int 0), .val (.int 2), .val (.int 0), .val (.int 1)] [(.ref ob)])) _
      refine XS.iload X0.here hx rfl (hb hby d21_14) rfl ?_
      refine X0.baloadBytes hx (j := (1 : Int32)) (v := (.int bb1)) (by rw [e0]; exact Ar6.1) (State.isArrayOf_alike hZ.alike Ar6.2.1) Ar6.2.2 hin6 hat6 (g := (mkF m 16 #[.val (.ref ob), .val (.int 0), .val (.int 0), .val (.int 2), .val (.int 0), .val (.int 1)] [(.int 1), (.ref ob)])) rfl rfl (hb hby d21_16) _ ?_
      refine XS.iload X0.here hx rfl (hb hby d21_17) rfl ?_
      exact kt
    by_cases hc19_7 : bb1.toInt = (0 : Int)
    · subst hSS
      obtain ⟨fs, hr, q1, q2, q3, q4⟩ := X0.leave (v := some (.int 1)) (fun h => by rw [Bd.returns] at h; cases h)
      refine ⟨_, _, pre8 _ ?_, q1, q2, _, _, rfl, ?_, ⟨_, rfl⟩, q3, q4.mono (by decide) (by decide)⟩
      · refine XS.icmpNo X0.here hx rfl (hb hby d21_19) rfl (own_teq (a := bb1) (b := (0 : Int32)) rfl (by decide) hc19_7).2 ?_
        refine XS.iload X0.here hx rfl (hb hby d21_22) rfl ?_
        exact retI X0 hx Bd.returns (hb hby d21_24) hr
      · show Q_ioc2 Z _ _ _ _ _ _ h0 n0 _ s₁.heap _
        rw [e0]
        exact ⟨_, rfl, by have iv : ((1 : Int32)).toInt = (1 : Int) := (by decide); omega, N0, rfl⟩
    · have hc10_9 : ¬ ((2 : Int) < (2 : Int)) := by decide
      subst hSS
      obtain ⟨fs, hr, q1, q2, q3, q4⟩ := X0.leave (v := some (.int (-1 : Int32))) (fun h => by rw [Bd.returns] at h; cases h)
      refine ⟨_, _, pre8 _ ?_, q1, q2, _, _, rfl, ?_, ⟨_, rfl⟩, q3, q4.mono (by decide) (by decide)⟩
      · refine XS.icmpYes X0.here hx rfl (pc0 := 19) (pc' := 25) rfl (hb hby d21_19) rfl (own_feq (a := bb1) (b := (0 : Int32)) rfl (by decide) hc19_7).2 (by decide) (by decide) ?_
        refine XS.iinc X0.here hx rfl (hb hby d21_25) rfl (l' := #[.val (.ref ob), .val (.int 0), .val (.int 0), .val (.int 2), .val (.int 0), .val (.int 2)]) rfl ?_
        refine XS.goto X0.here hx rfl (pc0 := 28) (pc' := 7) rfl (hb hby d21_28) (by decide) (by decide) ?_
        refine XS.iload X0.here hx rfl (hb hby d21_7) rfl ?_
        refine XS.iloadN X0.here hx rfl (hb hby d21_9) rfl ?_
        refine XS.icmpYes X0.here hx rfl (pc0 := 10) (pc' := 31) rfl (hb hby d21_10) rfl (own_flt (a := (2 : Int32)) (b := (2 : Int32)) (by decide) (by decide) hc10_9).2.1 (by decide) (by decide) ?_
        refine XS.iconst X0.here hx rfl (hb hby d21_31) ?_
        exact retI X0 hx Bd.returns (hb hby d21_32) hr
      · show Q_ioc2 Z _ _ _ _ _ _ h0 n0 _ s₁.heap _
        rw [e0]
        exact ⟨_, rfl, by have iv : ((-1 : Int32)).toInt = (-1 : Int) := (by decide); omega, N0, rfl⟩
theorem ef_rm_iu2 (m : MethodId) (x0 : Addr) : entryFrame m #[(.ref x0), (.int 0), (.int 0), (.int 2)] 5 = mkF m 0 #[.val (.ref x0), .val (.int 0), .val (.int 0), .val (.int 2), .unset] [] := by first | (simp [entryFrame, mkF, argsToLocals, Value.category]; done) | rfl
def Q_iu2 (Z : State) (ob : Addr) (vcs : Int32) (vf : Value) (kb : ClassId) (lo0 : Int32) (hi0 : Int32) (lo1 : Int32) (hi1 : Int32) (h0 : Heap) (n0 : Nat) (v : Option Value) (h : Heap) (L : List Loc) : Prop := ∃ z : Int32, v = some (.int z) ∧ ((0 ≤ z.toInt ∧ ((lo0.toInt % 256 + 256 * (hi0.toInt % 256)) = 0 ∨ (lo1.toInt % 256 + 256 * (hi1.toInt % 256)) = 0)) ∨ (z.toInt < 0 ∧ ¬ ((lo0.toInt % 256 + 256 * (hi0.toInt % 256)) = 0 ∨ (lo1.toInt % 256 + 256 * (hi1.toInt % 256)) = 0))) ∧ Fr n0 L ∧ h = h0
theorem rm_iu2 (l : Launch) (Z : State) (a0 : Array Value) (hw : ∀ d ∈ tables_1, d.before a0 Z = true) (ws : List Jvm.Cond) (ob : Addr) (vcs : Int32) (vf : Value) (kb : ClassId) (lo0 : Int32) (hi0 : Int32) (lo1 : Int32) (hi1 : Int32) (h0 : Heap) (n0 : Nat) (Z0 : n0 ≤ h0.size) (Os : own_st Z h0 vcs vf) (Vb : Arv Z h0 ob kb .byte (4 : Int32) [(.int lo0), (.int hi0), (.int lo1), (.int hi1)] (.int 0)) :
    MetFree l yn15 (head1 (Jvm.Cond.code yn15 kc15 5 (some .int) :: ws) ⟨1, 0, 0, 13⟩) (fun a U => a = #[(.ref ob), (.int 0), (.int 0), (.int 2)] ∧ Z.Warmed39 U.vm ∧ U.heap = h0) (fun _ _ _ _ _ => True) (fun _ U o U' => ∃ v L, o = .returned v ∧ Q_iu2 Z ob vcs vf kb lo0 hi0 lo1 hi1 h0 n0 v U'.heap L ∧ FrameEnd U o U' L 0 0) := by
  refine MetFree.of_bodySF (plainFor_of_name pn_3) hisR ?_
  intro p e s m args below meth c s₁ Bd hml0 hP hK
  obtain ⟨rfl, hZ, hh⟩ := hP
  have hx := Bd.exec
  have hby := Bd.bytes
  have hml : c.maxLocals = 5 := hml0
  have hown : s.vm.findClass "java/lang/StringUTF16" = some m.cls := findClass_of_methodNamed Bd.named
  have hnm := (name_of_methodNamed Bd.named Bd.method).1
  have X0 : Stand p l e ⟨1, 0, 0, 13⟩ s m #[(.ref ob), (.int 0), (.int 0), (.int 2)] below meth c s₁ [] 0 0 := Stand.of_body Bd
  have e0 : s₁.heap = h0 := by rw [← hh, Bd.state]; rfl
  have N0 := Fr.nil n0
  obtain ⟨SS, hSS⟩ : ∃ S, S = s₁.setTop (entryFrame m #[(.ref ob), (.int 0), (.int 0), (.int 2)] 5) := ⟨_, rfl⟩
  have pre0 : oP p e below (s₁.setTop (mkF m 0 #[.val (.ref ob), .val (.int 0), .val (.int 0), .val (.int 2), .unset] [])) (SS) := by
    rw [hSS]; exact fun t k => castTop (ef_rm_iu2 m ob) k
  have hc6_1 : (0 : Int) < (2 : Int) := by decide
  obtain ⟨_, _, ⟨T2, L2, k2, n2⟩, -, X2, ⟨Lc2, hQ2, l2, y2, z2⟩, st2⟩ := Jvm.LawKit.callS X0 hx (y := yn7) hown (mvT hZ (ow hw 116 rfl)) (mvT hZ (ow hw 117 rfl)) (mvT hZ (ow hw 39 rfl)) (mvT hZ (ow hw 118 rfl)) (by decide) (backOf (W := 0) (rm_gc l Z a0 hw [] ob (0 : Int32) vcs vf kb (4 : Int32) [(.int lo0), (.int hi0), (.int lo1), (.int hi1)] lo0 hi0 0 h0 n0 Z0 Os Vb (by decide) (by decide) (by decide) rfl rfl) hZ (ow hw 118 rfl) (ow hw 39 rfl) (by decide) (by decide)) (g := (mkF m 12 #[.val (.ref ob), .val (.int 0), .val (.int 0), .val (.int 2), .val (.int 0)] [(.int 0), (.ref ob)])) rfl (by rw [hml]; rfl) (argsL := [(.ref ob), (.int 0)]) (rest := []) (lenOf pd_5 rfl) rfl (by exact Nat.le_of_eq rfl) (hb hby d33_12) (fun _ _ => ⟨rfl, e0, (by decide : 0 + 0 ≤ _), (by decide : 0 + 0 ≤ _)⟩)
  dsimp only [Pt.U, Pt.locs, Pt.cells, Pt.slots] at X2 l2 y2 z2 st2 hQ2
  rw [l2, y2, z2] at X2
  obtain ⟨g0, rfl, hg0, N2q, e2⟩ := hQ2
  have N2 := Fr.app N0 N2q
  have pre4 : oP p e below (T2.setTop (mkF m 16 #[.val (.ref ob), .val (.int 0), .val (.int 0), .val (.int 2), .val (.int 0)] [(.int 0), (.int g0)])) (SS) := fun t kt => by
    refine pre0 _ ?_
    refine XS.iloadN X0.here hx rfl (hb hby d33_0) rfl ?_
    refine XS.istore X0.here hx rfl (hb hby d33_1) rfl (l' := #[.val (.ref ob), .val (.int 0), .val (.int 0), .val (.int 2), .val (.int 0)]) rfl ?_
    refine XS.iload X0.here hx rfl (hb hby d33_3) rfl ?_
    refine XS.iloadN X0.here hx rfl (hb hby d33_5) rfl ?_
    refine XS.icmpNo X0.here hx rfl (hb hby d33_6) rfl (own_tlt (a := (0 : Int32)) (b := (2 : Int32)) (by decide) (by decide) hc6_1).2.1 ?_
    refine XS.aloadN X0.here hx rfl (hb hby d33_9) rfl rfl ?_
    refine XS.iload X0.here hx rfl (hb hby d33_10) rfl ?_
    refine st2 _ ?_
    refine XS.iloadN X2.here hx rfl (hb hby d33_15) rfl ?_
    exact kt
  by_cases hc16_3 : g0.toInt = (0 : Int)
  · subst hSS
    obtain ⟨fs, hr, q1, q2, q3, q4⟩ := X2.leave (v := some (.int 0)) (fun h => by rw [Bd.returns] at h; cases h)
    refine ⟨_, _, pre4 _ ?_, q1, q2, _, _, rfl, ?_, ⟨_, rfl⟩, q3, q4.mono (by decide) (by decide)⟩
    · refine XS.icmpNo X2.here hx rfl (hb hby d33_16) rfl (own_teq (a := g0) (b := (0 : Int32)) rfl (by decide) hc16_3).2 ?_
      refine XS.iload X2.here hx rfl (hb hby d33_19) rfl ?_
      exact retI X2 hx Bd.returns (hb hby d33_21) hr
    · show Q_iu2 Z _ _ _ _ _ _ _ _ h0 n0 _ T2.heap _
      rw [e2]
      exact ⟨_, rfl, by have iv : ((0 : Int32)).toInt = (0 : Int) := (by decide); omega, N2, rfl⟩
  · have hc6_5 : (1 : Int) < (2 : Int) := by decide
    obtain ⟨_, _, ⟨T6, L6, k6, n6⟩, -, X6, ⟨Lc6, hQ6, l6, y6, z6⟩, st6⟩ := Jvm.LawKit.callS X2 hx (y := yn7) hown (mvT hZ (ow hw 116 rfl)) (mvT hZ (ow hw 117 rfl)) (mvT hZ (ow hw 39 rfl)) (mvT hZ (ow hw 118 rfl)) (by decide) (backOf (W := 0) (rm_gc l Z a0 hw [] ob (1 : Int32) vcs vf kb (4 : Int32) [(.int lo0), (.int hi0), (.int lo1), (.int hi1)] lo1 hi1 1 h0 n0 Z0 Os Vb (by decide) (by decide) (by decide) rfl rfl) hZ (ow hw 118 rfl) (ow hw 39 rfl) (by decide) (by decide)) (g := (mkF m 12 #[.val (.ref ob), .val (.int 0), .val (.int 0), .val (.int 2), .val (.int 1)] [(.int 1), (.ref ob)])) rfl (by rw [hml]; rfl) (argsL := [(.ref ob), (.int 1)]) (rest := []) (lenOf pd_5 rfl) rfl (by exact Nat.le_of_eq rfl) (hb hby d33_12) (fun _ _ => ⟨rfl, e2, (by decide : 0 + 0 ≤ _), (by decide : 0 + 0 ≤ _)⟩)
    dsimp only [Pt.U, Pt.locs, Pt.cells, Pt.slots] at X6 l6 y6 z6 st6 hQ6
    rw [l6, y6, z6] at X6
    obtain ⟨g1, rfl, hg1, N6q, e6⟩ := hQ6
    have N6 := Fr.app N2 N6q
    have pre8 : oP p e below (T6.setTop (mkF m 16 #[.val (.ref ob), .val (.int 0), .val (.int 0), .val (.int 2), .val (.int 1)] [(.int 0), (.int g1)])) (SS) := fun t kt => by
      refine pre4 _ ?_
      refine XS.icmpYes X2.here hx rfl (pc0 := 16) (pc' := 22) rfl (hb hby d33_16) rfl (own_feq (a := g0) (b := (0 : Int32)) rfl (by decide) hc16_3).2 (by decide) (by decide) ?_
      refine XS.iinc X2.here hx rfl (hb hby d33_22) rfl (l' := #[.val (.ref ob), .val (.int 0), .val (.int 0), .val (.int 2), .val (.int 1)]) rfl ?_
      refine XS.goto X2.here hx rfl (pc0 := 25) (pc' := 3) rfl (hb hby d33_25) (by decide) (by decide) ?_
      refine XS.iload X2.here hx rfl (hb hby d33_3) rfl ?_
      refine XS.iloadN X2.here hx rfl (hb hby d33_5) rfl ?_
      refine XS.icmpNo X2.here hx rfl (hb hby d33_6) rfl (own_tlt (a := (1 : Int32)) (b := (2 : Int32)) (by decide) (by decide) hc6_5).2.1 ?_
      refine XS.aloadN X2.here hx rfl (hb hby d33_9) rfl rfl ?_
      refine XS.iload X2.here hx rfl (hb hby d33_10) rfl ?_
      refine st6 _ ?_
      refine XS.iloadN X6.here hx rfl (hb hby d33_15) rfl ?_
      exact kt
    by_cases hc16_7 : g1.toInt = (0 : Int)
    · subst hSS
      obtain ⟨fs, hr, q1, q2, q3, q4⟩ := X6.leave (v := some (.int 1)) (fun h => by rw [Bd.returns] at h; cases h)
      refine ⟨_, _, pre8 _ ?_, q1, q2, _, _, rfl, ?_, ⟨_, rfl⟩, q3, q4.mono (by decide) (by decide)⟩
      · refine XS.icmpNo X6.here hx rfl (hb hby d33_16) rfl (own_teq (a := g1) (b := (0 : Int32)) rfl (by decide) hc16_7).2 ?_
        refine XS.iload X6.here hx rfl (hb hby d33_19) rfl ?_
        exact retI X6 hx Bd.returns (hb hby d33_21) hr
      · show Q_iu2 Z _ _ _ _ _ _ _ _ h0 n0 _ T6.heap _
        rw [e6]
        exact ⟨_, rfl, by have iv : ((1 : Int32)).toInt = (1 : Int) := (by decide); omega, N6, rfl⟩
    · have hc6_9 : ¬ ((2 : Int) < (2 : Int)) := by decide
      subst hSS
      obtain ⟨fs, hr, q1, q2, q3, q4⟩ := X6.leave (v := some (.int (-1 : Int32))) (fun h => by rw [Bd.returns] at h; cases h)
      refine ⟨_, _, pre8 _ ?_, q1, q2, _, _, rfl, ?_, ⟨_, rfl⟩, q3, q4.mono (by decide) (by decide)⟩
      · refine XS.icmpYes X6.here hx rfl (pc0 := 16) (pc' := 22) rfl (hb hby d33_16) rfl (own_feq (a := g1) (b := (0 : Int32)) rfl (by decide) hc16_7).2 (by decide) (by decide) ?_
        refine XS.iinc X6.here hx rfl (hb hby d33_22) rfl (l' := #[.val (.ref ob), .val (.int 0), .val (.int 0), .val (.int 2), .val (.int 2)]) rfl ?_
        refine XS.goto X6.here hx rfl (pc0 := 25) (pc' := 3) rfl (hb hby d33_25) (by decide) (by decide) ?_
        refine XS.iload X6.here hx rfl (hb hby d33_3) rfl ?_
        refine XS.iloadN X6.here hx rfl (hb hby d33_5) rfl ?_
        refine XS.icmpYes X6.here hx rfl (pc0 := 6) (pc' := 28) rfl (hb hby d33_6) rfl (own_flt (a := (2 : Int32)) (b := (2 : Int32)) (by decide) (by decide) hc6_9).2.1 (by decide) (by decide) ?_
        refine XS.iconst X6.here hx rfl (hb hby d33_28) ?_
        exact retI X6 hx Bd.returns (hb hby d33_29) hr
      · show Q_iu2 Z _ _ _ _ _ _ _ _ h0 n0 _ T6.heap _
        rw [e6]
        exact ⟨_, rfl, by have iv : ((-1 : Int32)).toInt = (-1 : Int) := (by decide); omega, N6, rfl⟩
theorem ef_rm_ioc3 (m : MethodId) (x0 : Addr) : entryFrame m #[(.ref x0), (.int 0), (.int 0), (.int 3)] 6 = mkF m 0 #[.val (.ref x0), .val (.int 0), .val (.int 0), .val (.int 3), .unset, .unset] [] := by first | (simp [entryFrame, mkF, argsToLocals, Value.category]; done) | rfl
def Q_ioc3 (Z : State) (ob : Addr) (vcs : Int32) (vf : Value) (kb : ClassId) (bb0 : Int32) (bb1 : Int32) (bb2 : Int32) (h0 : Heap) (n0 : Nat) (v : Option Value) (h : Heap) (L : List Loc) : Prop := ∃ z : Int32, v = some (.int z) ∧ ((0 ≤ z.toInt ∧ (bb0.toInt = 0 ∨ bb1.toInt = 0 ∨ bb2.toInt = 0)) ∨ (z.toInt < 0 ∧ ¬ (bb0.toInt = 0 ∨ bb1.toInt = 0 ∨ bb2.toInt = 0))) ∧ Fr n0 L ∧ h = h0
theorem rm_ioc3 (l : Launch) (Z : State) (a0 : Array Value) (hw : ∀ d ∈ tables_1, d.before a0 Z = true) (ws : List Jvm.Cond) (ob : Addr) (vcs : Int32) (vf : Value) (kb : ClassId) (bb0 : Int32) (bb1 : Int32) (bb2 : Int32) (h0 : Heap) (n0 : Nat) (Z0 : n0 ≤ h0.size) (Os : own_st Z h0 vcs vf) (Vb : Arv Z h0 ob kb .byte (3 : Int32) [(.int bb0), (.int bb1), (.int bb2)] (.int 0)) :
    MetFree l yn14 (head1 (Jvm.Cond.code yn14 kc14 6 (some .int) :: ws) ⟨0, 0, 0, 0⟩) (fun a U => a = #[(.ref ob), (.int 0), (.int 0), (.int 3)] ∧ Z.Warmed39 U.vm ∧ U.heap = h0) (fun _ _ _ _ _ => True) (fun _ U o U' => ∃ v L, o = .returned v ∧ Q_ioc3 Z ob vcs vf kb bb0 bb1 bb2 h0 n0 v U'.heap L ∧ FrameEnd U o U' L 0 0) := by
  refine MetFree.of_bodySF (plainFor_of_name pn_2) hisR ?_
  intro p e s m args below meth c s₁ Bd hml0 hP hK
  obtain ⟨rfl, hZ, hh⟩ := hP
  have hx := Bd.exec
  have hby := Bd.bytes
  have hml : c.maxLocals = 6 := hml0
  have hown : s.vm.findClass "java/lang/StringLatin1" = some m.cls := findClass_of_methodNamed Bd.named
  have hnm := (name_of_methodNamed Bd.named Bd.method).1
  have X0 : Stand p l e ⟨0, 0, 0, 0⟩ s m #[(.ref ob), (.int 0), (.int 0), (.int 3)] below meth c s₁ [] 0 0 := Stand.of_body Bd
  have e0 : s₁.heap = h0 := by rw [← hh, Bd.state]; rfl
  have N0 := Fr.nil n0
  obtain ⟨SS, hSS⟩ : ∃ S, S = s₁.setTop (entryFrame m #[(.ref ob), (.int 0), (.int 0), (.int 3)] 6) := ⟨_, rfl⟩
  have pre0 : oP p e below (s₁.setTop (mkF m 0 #[.val (.ref ob), .val (.int 0), .val (.int 0), .val (.int 3), .unset, .unset] [])) (SS) := by
    rw [hSS]; exact fun t k => castTop (ef_rm_ioc3 m ob) k
  have hc10_1 : (0 : Int) < (3 : Int) := by decide
  obtain ⟨cl2, Ar2, q2, S2, M2, H2, G2⟩ := id Vb
  have hin2 : ¬ ((0 : Int32) < 0 ∨ cl2.slots.size ≤ ((0 : Int32)).toNatClampNeg) := inb_of S2 ⟨by decide, by decide⟩
  have hat2 : cl2.slots[((0 : Int32)).toNatClampNeg]? = some (.int bb0) := Has.at H2 hin2 rfl
  have pre4 : oP p e below (s₁.setTop (mkF m 19 #[.val (.ref ob), .val (.int 0), .val (.int 0), .val (.int 3), .val (.int 0), .val (.int 0)] [(.int 0), (.int bb0)])) (SS) := fun t kt => by
    refine pre0 _ ?_
    refine XS.iloadN X0.here hx rfl (hb hby d21_0) rfl ?_
    refine XS.i2b X0.here hx rfl (hb hby d21_1) rfl ?_
    refine XS.istore X0.here hx rfl (hb hby d21_2) rfl (l' := #[.val (.ref ob), .val (.int 0), .val (.int 0), .val (.int 3), .val (.int 0), .unset]) rfl ?_
    refine XS.iloadN X0.here hx rfl (hb hby d21_4) rfl ?_
    refine XS.istore X0.here hx rfl (hb hby d21_5) rfl (l' := #[.val (.ref ob), .val (.int 0), .val (.int 0), .val (.int 3), .val (.int 0), .val (.int 0)]) rfl ?_
    refine XS.iload X0.here hx rfl (hb hby d21_7) rfl ?_
    refine XS.iloadN X0.here hx rfl (hb hby d21_9) rfl ?_
    refine XS.icmpNo X0.here hx rfl (hb hby d21_10) rfl (own_tlt (a := (0 : Int32)) (b := (3 : Int32)) (by decide) (by decide) hc10_1).2.1 ?_
    refine XS.aloadN X0.here hx rfl (hb hby d21_13) rfl rfl ?_
    refine XS.iload X0.here hx rfl (hb hby d21_14) rfl ?_
    refine X0.baloadBytes hx (j := (0 : Int32)) (v := (.int bb0)) (by rw [e0]; exact Ar2.1) (State.isArrayOf_alike hZ.alike Ar2.2.1) Ar2.2.2 hin2 hat2 (g := (mkF m 16 #[.val (.ref ob), .val (.int 0), .val (.int 0), .val (.int 3), .val (.int 0), .val (.int 0)] [(.int 0), (.ref ob)])) rfl rfl (hb hby d21_16) _ ?_
    refine XS.iload X0.here hx rfl (hb hby d21_17) rfl ?_
    exact kt
  by_cases hc19_3 : bb0.toInt = (0 : Int)
  · subst hSS
    obtain ⟨fs, hr, q1, q2, q3, q4⟩ := X0.leave (v := some (.int 0)) (fun h => by rw [Bd.returns] at h; cases h)
    refine ⟨_, _, pre4 _ ?_, q1, q2, _, _, rfl, ?_, ⟨_, rfl⟩, q3, q4.mono (by decide) (by decide)⟩
    · refine XS.icmpNo X0.here hx rfl (hb hby d21_19) rfl (own_teq (a := bb0) (b := (0 : Int32)) rfl (by decide) hc19_3).2 ?_
      refine XS.iload X0.here hx rfl (hb hby d21_22) rfl ?_
      exact retI X0 hx Bd.returns (hb hby d21_24) hr
    · show Q_ioc3 Z _ _ _ _ _ _ _ h0 n0 _ s₁.heap _
      rw [e0]
      exact ⟨_, rfl, by have iv : ((0 : Int32)).toInt = (0 : Int) := (by decide); omega, N0, rfl⟩
  · have hc10_5 : (1 : Int) < (3 : Int) := by decide
    obtain ⟨cl6, Ar6, q6, S6, M6, H6, G6⟩ := id Vb
    have hin6 : ¬ ((1 : Int32) < 0 ∨ cl6.slots.size ≤ ((1 : Int32)).toNatClampNeg) := inb_of S6 ⟨by decide, by decide⟩
    have hat6 : cl6.slots[((1 : Int32)).toNatClampNeg]? = some (.int bb1) := Has.at H6 hin6 rfl
    have pre8 : oP p e below (s₁.setTop (mkF m 19 #[.val (.ref ob), .val (.int 0), .val (.int 0), .val (.int 3), .val (.int 0), .val (.int 1)] [(.int 0), (.int bb1)])) (SS) := fun t kt => by
      refine pre4 _ ?_
      refine XS.icmpYes X0.here hx rfl (pc0 := 19) (pc' := 25) rfl (hb hby d21_19) rfl (own_feq (a := bb0) (b := (0 : Int32)) rfl (by decide) hc19_3).2 (by decide) (by decide) ?_
      refine XS.iinc X0.here hx rfl (hb hby d21_25) rfl (l' := #[.val (.ref ob), .val (.int 0), .val (.int 0), .val (.int 3), .val (.int 0), .val (.int 1)]) rfl ?_
      refine XS.goto X0.here hx rfl (pc0 := 28) (pc' := 7) rfl (hb hby d21_28) (by decide) (by decide) ?_
      refine XS.iload X0.here hx rfl (hb hby d21_7) rfl ?_
      refine XS.iloadN X0.here hx rfl (hb hby d21_9) rfl ?_
      refine XS.icmpNo X0.here hx rfl (hb hby d21_10) rfl (own_tlt (a := (1 : Int32)) (b := (3 : Int32)) (by decide) (by decide) hc10_5).2.1 ?_
      refine XS.aloadN X0.here hx rfl (hb hby d21_13) rfl rfl ?_
      show Steps p.tables e below (s₁.setTop (mkF m 14 #[.val (.ref ob), .val (.int 0), .val (.int 0), .val (.int 3), .val (.int 0), .val (.int 1)] [(.ref ob)])) _
      refine XS.iload X0.here hx rfl (hb hby d21_14) rfl ?_
      refine X0.baloadBytes hx (j := (1 : Int32)) (v := (.int bb1)) (by rw [e0]; exact Ar6.1) (State.isArrayOf_alike hZ.alike Ar6.2.1) Ar6.2.2 hin6 hat6 (g := (mkF m 16 #[.val (.ref ob), .val (.int 0), .val (.int 0), .val (.int 3), .val (.int 0), .val (.int 1)] [(.int 1), (.ref ob)])) rfl rfl (hb hby d21_16) _ ?_
      refine XS.iload X0.here hx rfl (hb hby d21_17) rfl ?_
      exact kt
    by_cases hc19_7 : bb1.toInt = (0 : Int)
    · subst hSS
      obtain ⟨fs, hr, q1, q2, q3, q4⟩ := X0.leave (v := some (.int 1)) (fun h => by rw [Bd.returns] at h; cases h)
      refine ⟨_, _, pre8 _ ?_, q1, q2, _, _, rfl, ?_, ⟨_, rfl⟩, q3, q4.mono (by decide) (by decide)⟩
      · refine XS.icmpNo X0.here hx rfl (hb hby d21_19) rfl (own_teq (a := bb1) (b := (0 : Int32)) rfl (by decide) hc19_7).2 ?_
        refine XS.iload X0.here hx rfl (hb hby d21_22) rfl ?_
        exact retI X0 hx Bd.returns (hb hby d21_24) hr
      · show Q_ioc3 Z _ _ _ _ _ _ _ h0 n0 _ s₁.heap _
        rw [e0]
        exact ⟨_, rfl, by have iv : ((1 : Int32)).toInt = (1 : Int) := (by decide); omega, N0, rfl⟩
    · have hc10_9 : (2 : Int) < (3 : Int) := by decide
      obtain ⟨cl10, Ar10, q10, S10, M10, H10, G10⟩ := id Vb
      have hin10 : ¬ ((2 : Int32) < 0 ∨ cl10.slots.size ≤ ((2 : Int32)).toNatClampNeg) := inb_of S10 ⟨by decide, by decide⟩
      have hat10 : cl10.slots[((2 : Int32)).toNatClampNeg]? = some (.int bb2) := Has.at H10 hin10 rfl
      have pre12 : oP p e below (s₁.setTop (mkF m 19 #[.val (.ref ob), .val (.int 0), .val (.int 0), .val (.int 3), .val (.int 0), .val (.int 2)] [(.int 0), (.int bb2)])) (SS) := fun t kt => by
        refine pre8 _ ?_
        refine XS.icmpYes X0.here hx rfl (pc0 := 19) (pc' := 25) rfl (hb hby d21_19) rfl (own_feq (a := bb1) (b := (0 : Int32)) rfl (by decide) hc19_7).2 (by decide) (by decide) ?_
        refine XS.iinc X0.here hx rfl (hb hby d21_25) rfl (l' := #[.val (.ref ob), .val (.int 0), .val (.int 0), .val (.int 3), .val (.int 0), .val (.int 2)]) rfl ?_
        refine XS.goto X0.here hx rfl (pc0 := 28) (pc' := 7) rfl (hb hby d21_28) (by decide) (by decide) ?_
        refine XS.iload X0.here hx rfl (hb hby d21_7) rfl ?_
        refine XS.iloadN X0.here hx rfl (hb hby d21_9) rfl ?_
        refine XS.icmpNo X0.here hx rfl (hb hby d21_10) rfl (own_tlt (a := (2 : Int32)) (b := (3 : Int32)) (by decide) (by decide) hc10_9).2.1 ?_
        refine XS.aloadN X0.here hx rfl (hb hby d21_13) rfl rfl ?_
        refine XS.iload X0.here hx rfl (hb hby d21_14) rfl ?_
        refine X0.baloadBytes hx (j := (2 : Int32)) (v := (.int bb2)) (by rw [e0]; exact Ar10.1) (State.isArrayOf_alike hZ.alike Ar10.2.1) Ar10.2.2 hin10 hat10 (g := (mkF m 16 #[.val (.ref ob), .val (.int 0), .val (.int 0), .val (.int 3), .val (.int 0), .val (.int 2)] [(.int 2), (.ref ob)])) rfl rfl (hb hby d21_16) _ ?_
        refine XS.iload X0.here hx rfl (hb hby d21_17) rfl ?_
        exact kt
      by_cases hc19_11 : bb2.toInt = (0 : Int)
      · subst hSS
        obtain ⟨fs, hr, q1, q2, q3, q4⟩ := X0.leave (v := some (.int 2)) (fun h => by rw [Bd.returns] at h; cases h)
        refine ⟨_, _, pre12 _ ?_, q1, q2, _, _, rfl, ?_, ⟨_, rfl⟩, q3, q4.mono (by decide) (by decide)⟩
        · refine XS.icmpNo X0.here hx rfl (hb hby d21_19) rfl (own_teq (a := bb2) (b := (0 : Int32)) rfl (by decide) hc19_11).2 ?_
          refine XS.iload X0.here hx rfl (hb hby d21_22) rfl ?_
          exact retI X0 hx Bd.returns (hb hby d21_24) hr
        · show Q_ioc3 Z _ _ _ _ _ _ _ h0 n0 _ s₁.heap _
          rw [e0]
          exact ⟨_, rfl, by have iv : ((2 : Int32)).toInt = (2 : Int) := (by decide); omega, N0, rfl⟩
      · have hc10_13 : ¬ ((3 : Int) < (3 : Int)) := by decide
        subst hSS
        obtain ⟨fs, hr, q1, q2, q3, q4⟩ := X0.leave (v := some (.int (-1 : Int32))) (fun h => by rw [Bd.returns] at h; cases h)
        refine ⟨_, _, pre12 _ ?_, q1, q2, _, _, rfl, ?_, ⟨_, rfl⟩, q3, q4.mono (by decide) (by decide)⟩
        · refine XS.icmpYes X0.here hx rfl (pc0 := 19) (pc' := 25) rfl (hb hby d21_19) rfl (own_feq (a := bb2) (b := (0 : Int32)) rfl (by decide) hc19_11).2 (by decide) (by decide) ?_
          refine XS.iinc X0.here hx rfl (hb hby d21_25) rfl (l' := #[.val (.ref ob), .val (.int 0), .val (.int 0), .val (.int 3), .val (.int 0), .val (.int 3)]) rfl ?_
          refine XS.goto X0.here hx rfl (pc0 := 28) (pc' := 7) rfl (hb hby d21_28) (by decide) (by decide) ?_
          refine XS.iload X0.here hx rfl (hb hby d21_7) rfl ?_
          refine XS.iloadN X0.here hx rfl (hb hby d21_9) rfl ?_
          refine XS.icmpYes X0.here hx rfl (pc0 := 10) (pc' := 31) rfl (hb hby d21_10) rfl (own_flt (a := (3 : Int32)) (b := (3 : Int32)) (by decide) (by decide) hc10_13).2.1 (by decide) (by decide) ?_
          refine XS.iconst X0.here hx rfl (hb hby d21_31) ?_
          show Steps p.tables e below (s₁.setTop (mkF m 32 #[.val (.ref ob), .val (.int 0), .val (.int 0), .val (.int 3), .val (.int 0), .val (.int 3)] [(.int (-1 : Int32))])) _
          exact retI X0 hx Bd.returns (hb hby d21_32) hr
        · show Q_ioc3 Z _ _ _ _ _ _ _ h0 n0 _ s₁.heap _
          rw [e0]
          exact ⟨_, rfl, by have iv : ((-1 : Int32)).toInt = (-1 : Int) := (by decide); omega, N0, rfl⟩
theorem ef_rm_iu3 (m : MethodId) (x0 : Addr) : entryFrame m #[(.ref x0), (.int 0), (.int 0), (.int 3)] 5 = mkF m 0 #[.val (.ref x0), .val (.int 0), .val (.int 0), .val (.int 3), .unset] [] := by first | (simp [entryFrame, mkF, argsToLocals, Value.category]; done) | rfl
def Q_iu3 (Z : State) (ob : Addr) (vcs : Int32) (vf : Value) (kb : ClassId) (lo0 : Int32) (hi0 : Int32) (lo1 : Int32) (hi1 : Int32) (lo2 : Int32) (hi2 : Int32) (h0 : Heap) (n0 : Nat) (v : Option Value) (h : Heap) (L : List Loc) : Prop := ∃ z : Int32, v = some (.int z) ∧ ((0 ≤ z.toInt ∧ ((lo0.toInt % 256 + 256 * (hi0.toInt % 256)) = 0 ∨ (lo1.toInt % 256 + 256 * (hi1.toInt % 256)) = 0 ∨ (lo2.toInt % 256 + 256 * (hi2.toInt % 256)) = 0)) ∨ (z.toInt < 0 ∧ ¬ ((lo0.toInt % 256 + 256 * (hi0.toInt % 256)) = 0 ∨ (lo1.toInt % 256 + 256 * (hi1.toInt % 256)) = 0 ∨ (lo2.toInt % 256 + 256 * (hi2.toInt % 256)) = 0))) ∧ Fr n0 L ∧ h = h0
theorem rm_iu3 (l : Launch) (Z : State) (a0 : Array Value) (hw : ∀ d ∈ tables_1, d.before a0 Z = true) (ws : List Jvm.Cond) (ob : Addr) (vcs : Int32) (vf : Value) (kb : ClassId) (lo0 : Int32) (hi0 : Int32) (lo1 : Int32) (hi1 : Int32) (lo2 : Int32) (hi2 : Int32) (h0 : Heap) (n0 : Nat) (Z0 : n0 ≤ h0.size) (Os : own_st Z h0 vcs vf) (Vb : Arv Z h0 ob kb .byte (6 : Int32) [(.int lo0), (.int hi0), (.int lo1), (.int hi1), (.int lo2), (.int hi2)] (.int 0)) :
    MetFree l yn15 (head1 (Jvm.Cond.code yn15 kc15 5 (some .int) :: ws) ⟨1, 0, 0, 13⟩) (fun a U => a = #[(.ref ob), (.int 0), (.int 0), (.int 3)] ∧ Z.Warmed39 U.vm ∧ U.heap = h0) (fun _ _ _ _ _ => True) (fun _ U o U' => ∃ v L, o = .returned v ∧ Q_iu3 Z ob vcs vf kb lo0 hi0 lo1 hi1 lo2 hi2 h0 n0 v U'.heap L ∧ FrameEnd U o U' L 0 0) := by
  refine MetFree.of_bodySF (plainFor_of_name pn_3) hisR ?_
  intro p e s m args below meth c s₁ Bd hml0 hP hK
  obtain ⟨rfl, hZ, hh⟩ := hP
  have hx := Bd.exec
  have hby := Bd.bytes
  have hml : c.maxLocals = 5 := hml0
  have hown : s.vm.findClass "java/lang/StringUTF16" = some m.cls := findClass_of_methodNamed Bd.named
  have hnm := (name_of_methodNamed Bd.named Bd.method).1
  have X0 : Stand p l e ⟨1, 0, 0, 13⟩ s m #[(.ref ob), (.int 0), (.int 0), (.int 3)] below meth c s₁ [] 0 0 := Stand.of_body Bd
  have e0 : s₁.heap = h0 := by rw [← hh, Bd.state]; rfl
  have N0 := Fr.nil n0
  obtain ⟨SS, hSS⟩ : ∃ S, S = s₁.setTop (entryFrame m #[(.ref ob), (.int 0), (.int 0), (.int 3)] 5) := ⟨_, rfl⟩
  have pre0 : oP p e below (s₁.setTop (mkF m 0 #[.val (.ref ob), .val (.int 0), .val (.int 0), .val (.int 3), .unset] [])) (SS) := by
    rw [hSS]; exact fun t k => castTop (ef_rm_iu3 m ob) k
  have hc6_1 : (0 : Int) < (3 : Int) := by decide
  obtain ⟨_, _, ⟨T2, L2, k2, n2⟩, -, X2, ⟨Lc2, hQ2, l2, y2, z2⟩, st2⟩ := Jvm.LawKit.callS X0 hx (y := yn7) hown (mvT hZ (ow hw 116 rfl)) (mvT hZ (ow hw 117 rfl)) (mvT hZ (ow hw 39 rfl)) (mvT hZ (ow hw 118 rfl)) (by decide) (backOf (W := 0) (rm_gc l Z a0 hw [] ob (0 : Int32) vcs vf kb (6 : Int32) [(.int lo0), (.int hi0), (.int lo1), (.int hi1), (.int lo2), (.int hi2)] lo0 hi0 0 h0 n0 Z0 Os Vb (by decide) (by decide) (by decide) rfl rfl) hZ (ow hw 118 rfl) (ow hw 39 rfl) (by decide) (by decide)) (g := (mkF m 12 #[.val (.ref ob), .val (.int 0), .val (.int 0), .val (.int 3), .val (.int 0)] [(.int 0), (.ref ob)])) rfl (by rw [hml]; rfl) (argsL := [(.ref ob), (.int 0)]) (rest := []) (lenOf pd_5 rfl) rfl (by exact Nat.le_of_eq rfl) (hb hby d33_12) (fun _ _ => ⟨rfl, e0, (by decide : 0 + 0 ≤ _), (by decide : 0 + 0 ≤ _)⟩)
  dsimp only [Pt.U, Pt.locs, Pt.cells, Pt.slots] at X2 l2 y2 z2 st2 hQ2
  rw [l2, y2, z2] at X2
  obtain ⟨g0, rfl, hg0, N2q, e2⟩ := hQ2
  have N2 := Fr.app N0 N2q
  have pre4 : oP p e below (T2.setTop (mkF m 16 #[.val (.ref ob), .val (.int 0), .val (.int 0), .val (.int 3), .val (.int 0)] [(.int 0), (.int g0)])) (SS) := fun t kt => by
    refine pre0 _ ?_
    refine XS.iloadN X0.here hx rfl (hb hby d33_0) rfl ?_
    refine XS.istore X0.here hx rfl (hb hby d33_1) rfl (l' := #[.val (.ref ob), .val (.int 0), .val (.int 0), .val (.int 3), .val (.int 0)]) rfl ?_
    refine XS.iload X0.here hx rfl (hb hby d33_3) rfl ?_
    refine XS.iloadN X0.here hx rfl (hb hby d33_5) rfl ?_
    refine XS.icmpNo X0.here hx rfl (hb hby d33_6) rfl (own_tlt (a := (0 : Int32)) (b := (3 : Int32)) (by decide) (by decide) hc6_1).2.1 ?_
    refine XS.aloadN X0.here hx rfl (hb hby d33_9) rfl rfl ?_
    refine XS.iload X0.here hx rfl (hb hby d33_10) rfl ?_
    refine st2 _ ?_
    refine XS.iloadN X2.here hx rfl (hb hby d33_15) rfl ?_
    exact kt
  by_cases hc16_3 : g0.toInt = (0 : Int)
  · subst hSS
    obtain ⟨fs, hr, q1, q2, q3, q4⟩ := X2.leave (v := some (.int 0)) (fun h => by rw [Bd.returns] at h; cases h)
    refine ⟨_, _, pre4 _ ?_, q1, q2, _, _, rfl, ?_, ⟨_, rfl⟩, q3, q4.mono (by decide) (by decide)⟩
    · refine XS.icmpNo X2.here hx rfl (hb hby d33_16) rfl (own_teq (a := g0) (b := (0 : Int32)) rfl (by decide) hc16_3).2 ?_
      refine XS.iload X2.here hx rfl (hb hby d33_19) rfl ?_
      exact retI X2 hx Bd.returns (hb hby d33_21) hr
    · show Q_iu3 Z _ _ _ _ _ _ _ _ _ _ h0 n0 _ T2.heap _
      rw [e2]
      exact ⟨_, rfl, by have iv : ((0 : Int32)).toInt = (0 : Int) := (by decide); omega, N2, rfl⟩
  · have hc6_5 : (1 : Int) < (3 : Int) := by decide
    obtain ⟨_, _, ⟨T6, L6, k6, n6⟩, -, X6, ⟨Lc6, hQ6, l6, y6, z6⟩, st6⟩ := Jvm.LawKit.callS X2 hx (y := yn7) hown (mvT hZ (ow hw 116 rfl)) (mvT hZ (ow hw 117 rfl)) (mvT hZ (ow hw 39 rfl)) (mvT hZ (ow hw 118 rfl)) (by decide) (backOf (W := 0) (rm_gc l Z a0 hw [] ob (1 : Int32) vcs vf kb (6 : Int32) [(.int lo0), (.int hi0), (.int lo1), (.int hi1), (.int lo2), (.int hi2)] lo1 hi1 1 h0 n0 Z0 Os Vb (by decide) (by decide) (by decide) rfl rfl) hZ (ow hw 118 rfl) (ow hw 39 rfl) (by decide) (by decide)) (g := (mkF m 12 #[.val (.ref ob), .val (.int 0), .val (.int 0), .val (.int 3), .val (.int 1)] [(.int 1), (.ref ob)])) rfl (by rw [hml]; rfl) (argsL := [(.ref ob), (.int 1)]) (rest := []) (lenOf pd_5 rfl) rfl (by exact Nat.le_of_eq rfl) (hb hby d33_12) (fun _ _ => ⟨rfl, e2, (by decide : 0 + 0 ≤ _), (by decide : 0 + 0 ≤ _)⟩)
    dsimp only [Pt.U, Pt.locs, Pt.cells, Pt.slots] at X6 l6 y6 z6 st6 hQ6
    rw [l6, y6, z6] at X6
    obtain ⟨g1, rfl, hg1, N6q, e6⟩ := hQ6
    have N6 := Fr.app N2 N6q
    have pre8 : oP p e below (T6.setTop (mkF m 16 #[.val (.ref ob), .val (.int 0), .val (.int 0), .val (.int 3), .val (.int 1)] [(.int 0), (.int g1)])) (SS) := fun t kt => by
      refine pre4 _ ?_
      refine XS.icmpYes X2.here hx rfl (pc0 := 16) (pc' := 22) rfl (hb hby d33_16) rfl (own_feq (a := g0) (b := (0 : Int32)) rfl (by decide) hc16_3).2 (by decide) (by decide) ?_
      refine XS.iinc X2.here hx rfl (hb hby d33_22) rfl (l' := #[.val (.ref ob), .val (.int 0), .val (.int 0), .val (.int 3), .val (.int 1)]) rfl ?_
      refine XS.goto X2.here hx rfl (pc0 := 25) (pc' := 3) rfl (hb hby d33_25) (by decide) (by decide) ?_
      refine XS.iload X2.here hx rfl (hb hby d33_3) rfl ?_
      refine XS.iloadN X2.here hx rfl (hb hby d33_5) rfl ?_
      refine XS.icmpNo X2.here hx rfl (hb hby d33_6) rfl (own_tlt (a := (1 : Int32)) (b := (3 : Int32)) (by decide) (by decide) hc6_5).2.1 ?_
      refine XS.aloadN X2.here hx rfl (hb hby d33_9) rfl rfl ?_
      refine XS.iload X2.here hx rfl (hb hby d33_10) rfl ?_
      refine st6 _ ?_
      refine XS.iloadN X6.here hx rfl (hb hby d33_15) rfl ?_
      exact kt
    by_cases hc16_7 : g1.toInt = (0 : Int)
    · subst hSS
      obtain ⟨fs, hr, q1, q2, q3, q4⟩ := X6.leave (v := some (.int 1)) (fun h => by rw [Bd.returns] at h; cases h)
      refine ⟨_, _, pre8 _ ?_, q1, q2, _, _, rfl, ?_, ⟨_, rfl⟩, q3, q4.mono (by decide) (by decide)⟩
      · refine XS.icmpNo X6.here hx rfl (hb hby d33_16) rfl (own_teq (a := g1) (b := (0 : Int32)) rfl (by decide) hc16_7).2 ?_
        refine XS.iload X6.here hx rfl (hb hby d33_19) rfl ?_
        exact retI X6 hx Bd.returns (hb hby d33_21) hr
      · show Q_iu3 Z _ _ _ _ _ _ _ _ _ _ h0 n0 _ T6.heap _
        rw [e6]
        exact ⟨_, rfl, by have iv : ((1 : Int32)).toInt = (1 : Int) := (by decide); omega, N6, rfl⟩
    · have hc6_9 : (2 : Int) < (3 : Int) := by decide
      obtain ⟨_, _, ⟨T10, L10, k10, n10⟩, -, X10, ⟨Lc10, hQ10, l10, y10, z10⟩, st10⟩ := Jvm.LawKit.callS X6 hx (y := yn7) hown (mvT hZ (ow hw 116 rfl)) (mvT hZ (ow hw 117 rfl)) (mvT hZ (ow hw 39 rfl)) (mvT hZ (ow hw 118 rfl)) (by decide) (backOf (W := 0) (rm_gc l Z a0 hw [] ob (2 : Int32) vcs vf kb (6 : Int32) [(.int lo0), (.int hi0), (.int lo1), (.int hi1), (.int lo2), (.int hi2)] lo2 hi2 2 h0 n0 Z0 Os Vb (by decide) (by decide) (by decide) rfl rfl) hZ (ow hw 118 rfl) (ow hw 39 rfl) (by decide) (by decide)) (g := (mkF m 12 #[.val (.ref ob), .val (.int 0), .val (.int 0), .val (.int 3), .val (.int 2)] [(.int 2), (.ref ob)])) rfl (by rw [hml]; rfl) (argsL := [(.ref ob), (.int 2)]) (rest := []) (lenOf pd_5 rfl) rfl (by exact Nat.le_of_eq rfl) (hb hby d33_12) (fun _ _ => ⟨rfl, e6, (by decide : 0 + 0 ≤ _), (by decide : 0 + 0 ≤ _)⟩)
      dsimp only [Pt.U, Pt.locs, Pt.cells, Pt.slots] at X10 l10 y10 z10 st10 hQ10
      rw [l10, y10, z10] at X10
      obtain ⟨g2, rfl, hg2, N10q, e10⟩ := hQ10
      have N10 := Fr.app N6 N10q
      have pre12 : oP p e below (T10.setTop (mkF m 16 #[.val (.ref ob), .val (.int 0), .val (.int 0), .val (.int 3), .val (.int 2)] [(.int 0), (.int g2)])) (SS) := fun t kt => by
        refine pre8 _ ?_
        refine XS.icmpYes X6.here hx rfl (pc0 := 16) (pc' := 22) rfl (hb hby d33_16) rfl (own_feq (a := g1) (b := (0 : Int32)) rfl (by decide) hc16_7).2 (by decide) (by decide) ?_
        refine XS.iinc X6.here hx rfl (hb hby d33_22) rfl (l' := #[.val (.ref ob), .val (.int 0), .val (.int 0), .val (.int 3), .val (.int 2)]) rfl ?_
        refine XS.goto X6.here hx rfl (pc0 := 25) (pc' := 3) rfl (hb hby d33_25) (by decide) (by decide) ?_
        refine XS.iload X6.here hx rfl (hb hby d33_3) rfl ?_
        refine XS.iloadN X6.here hx rfl (hb hby d33_5) rfl ?_
        refine XS.icmpNo X6.here hx rfl (hb hby d33_6) rfl (own_tlt (a := (2 : Int32)) (b := (3 : Int32)) (by decide) (by decide) hc6_9).2.1 ?_
        refine XS.aloadN X6.here hx rfl (hb hby d33_9) rfl rfl ?_
        refine XS.iload X6.here hx rfl (hb hby d33_10) rfl ?_
        refine st10 _ ?_
        refine XS.iloadN X10.here hx rfl (hb hby d33_15) rfl ?_
        exact kt
      by_cases hc16_11 : g2.toInt = (0 : Int)
      · subst hSS
        obtain ⟨fs, hr, q1, q2, q3, q4⟩ := X10.leave (v := some (.int 2)) (fun h => by rw [Bd.returns] at h; cases h)
        refine ⟨_, _, pre12 _ ?_, q1, q2, _, _, rfl, ?_, ⟨_, rfl⟩, q3, q4.mono (by decide) (by decide)⟩
        · refine XS.icmpNo X10.here hx rfl (hb hby d33_16) rfl (own_teq (a := g2) (b := (0 : Int32)) rfl (by decide) hc16_11).2 ?_
          refine XS.iload X10.here hx rfl (hb hby d33_19) rfl ?_
          exact retI X10 hx Bd.returns (hb hby d33_21) hr
        · show Q_iu3 Z _ _ _ _ _ _ _ _ _ _ h0 n0 _ T10.heap _
          rw [e10]
          exact ⟨_, rfl, by have iv : ((2 : Int32)).toInt = (2 : Int) := (by decide); omega, N10, rfl⟩
      · have hc6_13 : ¬ ((3 : Int) < (3 : Int)) := by decide
        subst hSS
        obtain ⟨fs, hr, q1, q2, q3, q4⟩ := X10.leave (v := some (.int (-1 : Int32))) (fun h => by rw [Bd.returns] at h; cases h)
        refine ⟨_, _, pre12 _ ?_, q1, q2, _, _, rfl, ?_, ⟨_, rfl⟩, q3, q4.mono (by decide) (by decide)⟩
        · refine XS.icmpYes X10.here hx rfl (pc0 := 16) (pc' := 22) rfl (hb hby d33_16) rfl (own_feq (a := g2) (b := (0 : Int32)) rfl (by decide) hc16_11).2 (by decide) (by decide) ?_
          refine XS.iinc X10.here hx rfl (hb hby d33_22) rfl (l' := #[.val (.ref ob), .val (.int 0), .val (.int 0), .val (.int 3), .val (.int 3)]) rfl ?_
          refine XS.goto X10.here hx rfl (pc0 := 25) (pc' := 3) rfl (hb hby d33_25) (by decide) (by decide) ?_
          refine XS.iload X10.here hx rfl (hb hby d33_3) rfl ?_
          refine XS.iloadN X10.here hx rfl (hb hby d33_5) rfl ?_
          refine XS.icmpYes X10.here hx rfl (pc0 := 6) (pc' := 28) rfl (hb hby d33_6) rfl (own_flt (a := (3 : Int32)) (b := (3 : Int32)) (by decide) (by decide) hc6_13).2.1 (by decide) (by decide) ?_
          refine XS.iconst X10.here hx rfl (hb hby d33_28) ?_
          exact retI X10 hx Bd.returns (hb hby d33_29) hr
        · show Q_iu3 Z _ _ _ _ _ _ _ _ _ _ h0 n0 _ T10.heap _
          rw [e10]
          exact ⟨_, rfl, by have iv : ((-1 : Int32)).toInt = (-1 : Int) := (by decide); omega, N10, rfl⟩
theorem ef_rm_ioc4 (m : MethodId) (x0 : Addr) : entryFrame m #[(.ref x0), (.int 0), (.int 0), (.int 4)] 6 = mkF m 0 #[.val (.ref x0), .val (.int 0), .val (.int 0), .val (.int 4), .unset, .unset] [] := by first | (simp [entryFrame, mkF, argsToLocals, Value.category]; done) | rfl
def Q_ioc4 (Z : State) (ob : Addr) (vcs : Int32) (vf : Value) (kb : ClassId) (bb0 : Int32) (bb1 : Int32) (bb2 : Int32) (bb3 : Int32) (h0 : Heap) (n0 : Nat) (v : Option Value) (h : Heap) (L : List Loc) : Prop := ∃ z : Int32, v = some (.int z) ∧ ((0 ≤ z.toInt ∧ (bb0.toInt = 0 ∨ bb1.toInt = 0 ∨ bb2.toInt = 0 ∨ bb3.toInt = 0)) ∨ (z.toInt < 0 ∧ ¬ (bb0.toInt = 0 ∨ bb1.toInt = 0 ∨ bb2.toInt = 0 ∨ bb3.toInt = 0))) ∧ Fr n0 L ∧ h = h0
theorem rm_ioc4 (l : Launch) (Z : State) (a0 : Array Value) (hw : ∀ d ∈ tables_1, d.before a0 Z = true) (ws : List Jvm.Cond) (ob : Addr) (vcs : Int32) (vf : Value) (kb : ClassId) (bb0 : Int32) (bb1 : Int32) (bb2 : Int32) (bb3 : Int32) (h0 : Heap) (n0 : Nat) (Z0 : n0 ≤ h0.size) (Os : own_st Z h0 vcs vf) (Vb : Arv Z h0 ob kb .byte (4 : Int32) [(.int bb0), (.int bb1), (.int bb2), (.int bb3)] (.int 0)) :
    MetFree l yn14 (head1 (Jvm.Cond.code yn14 kc14 6 (some .int) :: ws) ⟨0, 0, 0, 0⟩) (fun a U => a = #[(.ref ob), (.int 0), (.int 0), (.int 4)] ∧ Z.Warmed39 U.vm ∧ U.heap = h0) (fun _ _ _ _ _ => True) (fun _ U o U' => ∃ v L, o = .returned v ∧ Q_ioc4 Z ob vcs vf kb bb0 bb1 bb2 bb3 h0 n0 v U'.heap L ∧ FrameEnd U o U' L 0 0) := by
  refine MetFree.of_bodySF (plainFor_of_name pn_2) hisR ?_
  intro p e s m args below meth c s₁ Bd hml0 hP hK
  obtain ⟨rfl, hZ, hh⟩ := hP
  have hx := Bd.exec
  have hby := Bd.bytes
  have hml : c.maxLocals = 6 := hml0
  have hown : s.vm.findClass "java/lang/StringLatin1" = some m.cls := findClass_of_methodNamed Bd.named
  have hnm := (name_of_methodNamed Bd.named Bd.method).1
  have X0 : Stand p l e ⟨0, 0, 0, 0⟩ s m #[(.ref ob), (.int 0), (.int 0), (.int 4)] below meth c s₁ [] 0 0 := Stand.of_body Bd
  have e0 : s₁.heap = h0 := by rw [← hh, Bd.state]; rfl
  have N0 := Fr.nil n0
  obtain ⟨SS, hSS⟩ : ∃ S, S = s₁.setTop (entryFrame m #[(.ref ob), (.int 0), (.int 0), (.int 4)] 6) := ⟨_, rfl⟩
  have pre0 : oP p e below (s₁.setTop (mkF m 0 #[.val (.ref ob), .val (.int 0), .val (.int 0), .val (.int 4), .unset, .unset] [])) (SS) := by
    rw [hSS]; exact fun t k => castTop (ef_rm_ioc4 m ob) k
  have hc10_1 : (0 : Int) < (4 : Int) := by decide
  obtain ⟨cl2, Ar2, q2, S2, M2, H2, G2⟩ := id Vb
  have hin2 : ¬ ((0 : Int32) < 0 ∨ cl2.slots.size ≤ ((0 : Int32)).toNatClampNeg) := inb_of S2 ⟨by decide, by decide⟩
  have hat2 : cl2.slots[((0 : Int32)).toNatClampNeg]? = some (.int bb0) := Has.at H2 hin2 rfl
  have pre4 : oP p e below (s₁.setTop (mkF m 19 #[.val (.ref ob), .val (.int 0), .val (.int 0), .val (.int 4), .val (.int 0), .val (.int 0)] [(.int 0), (.int bb0)])) (SS) := fun t kt => by
    refine pre0 _ ?_
    refine XS.iloadN X0.here hx rfl (hb hby d21_0) rfl ?_
    refine XS.i2b X0.here hx rfl (hb hby d21_1) rfl ?_
    refine XS.istore X0.here hx rfl (hb hby d21_2) rfl (l' := #[.val (.ref ob), .val (.int 0), .val (.int 0), .val (.int 4), .val (.int 0), .unset]) rfl ?_
    refine XS.iloadN X0.here hx rfl (hb hby d21_4) rfl ?_
    refine XS.istore X0.here hx rfl (hb hby d21_5) rfl (l' := #[.val (.ref ob), .val (.int 0), .val (.int 0), .val (.int 4), .val (.int 0), .val (.int 0)]) rfl ?_
    refine XS.iload X0.here hx rfl (hb hby d21_7) rfl ?_
    refine XS.iloadN X0.here hx rfl (hb hby d21_9) rfl ?_
    refine XS.icmpNo X0.here hx rfl (hb hby d21_10) rfl (own_tlt (a := (0 : Int32)) (b := (4 : Int32)) (by decide) (by decide) hc10_1).2.1 ?_
    refine XS.aloadN X0.here hx rfl (hb hby d21_13) rfl rfl ?_
    refine XS.iload X0.here hx rfl (hb hby d21_14) rfl ?_
    refine X0.baloadBytes hx (j := (0 : Int32)) (v := (.int bb0)) (by rw [e0]; exact Ar2.1) (State.isArrayOf_alike hZ.alike Ar2.2.1) Ar2.2.2 hin2 hat2 (g := (mkF m 16 #[.val (.ref ob), .val (.int 0), .val (.int 0), .val (.int 4), .val (.int 0), .val (.int 0)] [(.int 0), (.ref ob)])) rfl rfl (hb hby d21_16) _ ?_
    refine XS.iload X0.here hx rfl (hb hby d21_17) rfl ?_
    exact kt
  by_cases hc19_3 : bb0.toInt = (0 : Int)
  · subst hSS
    obtain ⟨fs, hr, q1, q2, q3, q4⟩ := X0.leave (v := some (.int 0)) (fun h => by rw [Bd.returns] at h; cases h)
    refine ⟨_, _, pre4 _ ?_, q1, q2, _, _, rfl, ?_, ⟨_, rfl⟩, q3, q4.mono (by decide) (by decide)⟩
    · refine XS.icmpNo X0.here hx rfl (hb hby d21_19) rfl (own_teq (a := bb0) (b := (0 : Int32)) rfl (by decide) hc19_3).2 ?_
      refine XS.iload X0.here hx rfl (hb hby d21_22) rfl ?_
      exact retI X0 hx Bd.returns (hb hby d21_24) hr
    · show Q_ioc4 Z _ _ _ _ _ _ _ _ h0 n0 _ s₁.heap _
      rw [e0]
      exact ⟨_, rfl, by have iv : ((0 : Int32)).toInt = (0 : Int) := (by decide); omega, N0, rfl⟩
  · have hc10_5 : (1 : Int) < (4 : Int) := by decide
    obtain ⟨cl6, Ar6, q6, S6, M6, H6, G6⟩ := id Vb
    have hin6 : ¬ ((1 : Int32) < 0 ∨ cl6.slots.size ≤ ((1 : Int32)).toNatClampNeg) := inb_of S6 ⟨by decide, by decide⟩
    have hat6 : cl6.slots[((1 : Int32)).toNatClampNeg]? = some (.int bb1) := Has.at H6 hin6 rfl
    have pre8 : oP p e below (s₁.setTop (mkF m 19 #[.val (.ref ob), .val (.int 0), .val (.int 0), .val (.int 4), .val (.int 0), .val (.int 1)] [(.int 0), (.int bb1)])) (SS) := fun t kt => by
      refine pre4 _ ?_
      refine XS.icmpYes X0.here hx rfl (pc0 := 19) (pc' := 25) rfl (hb hby d21_19) rfl (own_feq (a := bb0) (b := (0 : Int32)) rfl (by decide) hc19_3).2 (by decide) (by decide) ?_
      refine XS.iinc X0.here hx rfl (hb hby d21_25) rfl (l' := #[.val (.ref ob), .val (.int 0), .val (.int 0), .val (.int 4), .val (.int 0), .val (.int 1)]) rfl ?_
      refine XS.goto X0.here hx rfl (pc0 := 28) (pc' := 7) rfl (hb hby d21_28) (by decide) (by decide) ?_
      refine XS.iload X0.here hx rfl (hb hby d21_7) rfl ?_
      refine XS.iloadN X0.here hx rfl (hb hby d21_9) rfl ?_
      refine XS.icmpNo X0.here hx rfl (hb hby d21_10) rfl (own_tlt (a := (1 : Int32)) (b := (4 : Int32)) (by decide) (by decide) hc10_5).2.1 ?_
      refine XS.aloadN X0.here hx rfl (hb hby d21_13) rfl rfl ?_
      show Steps p.tables e below (s₁.setTop (mkF m 14 #[.val (.ref ob), .val (.int 0), .val (.int 0), .val (.int 4), .val (.int 0), .val (.int 1)] [(.ref ob)])) _
      refine XS.iload X0.here hx rfl (hb hby d21_14) rfl ?_
      refine X0.baloadBytes hx (j := (1 : Int32)) (v := (.int bb1)) (by rw [e0]; exact Ar6.1) (State.isArrayOf_alike hZ.alike Ar6.2.1) Ar6.2.2 hin6 hat6 (g := (mkF m 16 #[.val (.ref ob), .val (.int 0), .val (.int 0), .val (.int 4), .val (.int 0), .val (.int 1)] [(.int 1), (.ref ob)])) rfl rfl (hb hby d21_16) _ ?_
      refine XS.iload X0.here hx rfl (hb hby d21_17) rfl ?_
      exact kt
    by_cases hc19_7 : bb1.toInt = (0 : Int)
    · subst hSS
      obtain ⟨fs, hr, q1, q2, q3, q4⟩ := X0.leave (v := some (.int 1)) (fun h => by rw [Bd.returns] at h; cases h)
      refine ⟨_, _, pre8 _ ?_, q1, q2, _, _, rfl, ?_, ⟨_, rfl⟩, q3, q4.mono (by decide) (by decide)⟩
      · refine XS.icmpNo X0.here hx rfl (hb hby d21_19) rfl (own_teq (a := bb1) (b := (0 : Int32)) rfl (by decide) hc19_7).2 ?_
        refine XS.iload X0.here hx rfl (hb hby d21_22) rfl ?_
        exact retI X0 hx Bd.returns (hb hby d21_24) hr
      · show Q_ioc4 Z _ _ _ _ _ _ _ _ h0 n0 _ s₁.heap _
        rw [e0]
        exact ⟨_, rfl, by have iv : ((1 : Int32)).toInt = (1 : Int) := (by decide); omega, N0, rfl⟩
    · have hc10_9 : (2 : Int) < (4 : Int) := by decide
      obtain ⟨cl10, Ar10, q10, S10, M10, H10, G10⟩ := id Vb
      have hin10 : ¬ ((2 : Int32) < 0 ∨ cl10.slots.size ≤ ((2 : Int32)).toNatClampNeg) := inb_of S10 ⟨by decide, by decide⟩
      have hat10 : cl10.slots[((2 : Int32)).toNatClampNeg]? = some (.int bb2) := Has.at H10 hin10 rfl
      have pre12 : oP p e below (s₁.setTop (mkF m 19 #[.val (.ref ob), .val (.int 0), .val (.int 0), .val (.int 4), .val (.int 0), .val (.int 2)] [(.int 0), (.int bb2)])) (SS) := fun t kt => by
        refine pre8 _ ?_
        refine XS.icmpYes X0.here hx rfl (pc0 := 19) (pc' := 25) rfl (hb hby d21_19) rfl (own_feq (a := bb1) (b := (0 : Int32)) rfl (by decide) hc19_7).2 (by decide) (by decide) ?_
        refine XS.iinc X0.here hx rfl (hb hby d21_25) rfl (l' := #[.val (.ref ob), .val (.int 0), .val (.int 0), .val (.int 4), .val (.int 0), .val (.int 2)]) rfl ?_
        refine XS.goto X0.here hx rfl (pc0 := 28) (pc' := 7) rfl (hb hby d21_28) (by decide) (by decide) ?_
        refine XS.iload X0.here hx rfl (hb hby d21_7) rfl ?_
        refine XS.iloadN X0.here hx rfl (hb hby d21_9) rfl ?_
        refine XS.icmpNo X0.here hx rfl (hb hby d21_10) rfl (own_tlt (a := (2 : Int32)) (b := (4 : Int32)) (by decide) (by decide) hc10_9).2.1 ?_
        refine XS.aloadN X0.here hx rfl (hb hby d21_13) rfl rfl ?_
        refine XS.iload X0.here hx rfl (hb hby d21_14) rfl ?_
        refine X0.baloadBytes hx (j := (2 : Int32)) (v := (.int bb2)) (by rw [e0]; exact Ar10.1) (State.isArrayOf_alike hZ.alike Ar10.2.1) Ar10.2.2 hin10 hat10 (g := (mkF m 16 #[.val (.ref ob), .val (.int 0), .val (.int 0), .val (.int 4), .val (.int 0), .val (.int 2)] [(.int 2), (.ref ob)])) rfl rfl (hb hby d21_16) _ ?_
        refine XS.iload X0.here hx rfl (hb hby d21_17) rfl ?_
        exact kt
      by_cases hc19_11 : bb2.toInt = (0 : Int)
      · subst hSS
        obtain ⟨fs, hr, q1, q2, q3, q4⟩ := X0.leave (v := some (.int 2)) (fun h => by rw [Bd.returns] at h; cases h)
        refine ⟨_, _, pre12 _ ?_, q1, q2, _, _, rfl, ?_, ⟨_, rfl⟩, q3, q4.mono (by decide) (by decide)⟩
        · refine XS.icmpNo X0.here hx rfl (hb hby d21_19) rfl (own_teq (a := bb2) (b := (0 : Int32)) rfl (by decide) hc19_11).2 ?_
          refine XS.iload X0.here hx rfl (hb hby d21_22) rfl ?_
          exact retI X0 hx Bd.returns (hb hby d21_24) hr
        · show Q_ioc4 Z _ _ _ _ _ _ _ _ h0 n0 _ s₁.heap _
          rw [e0]
          exact ⟨_, rfl, by have iv : ((2 : Int32)).toInt = (2 : Int) := (by decide); omega, N0, rfl⟩
      · have hc10_13 : (3 : Int) < (4 : Int) := by decide
        obtain ⟨cl14, Ar14, q14, S14, M14, H14, G14⟩ := id Vb
        have hin14 : ¬ ((3 : Int32) < 0 ∨ cl14.slots.size ≤ ((3 : Int32)).toNatClampNeg) := inb_of S14 ⟨by decide, by decide⟩
        have hat14 : cl14.slots[((3 : Int32)).toNatClampNeg]? = some (.int bb3) := Has.at H14 hin14 rfl
        have pre16 : oP p e below (s₁.setTop (mkF m 19 #[.val (.ref ob), .val (.int 0), .val (.int 0), .val (.int 4), .val (.int 0), .val (.int 3)] [(.int 0), (.int bb3)])) (SS) := fun t kt => by
          refine pre12 _ ?_
          refine XS.icmpYes X0.here hx rfl (pc0 := 19) (pc' := 25) rfl (hb hby d21_19) rfl (own_feq (a := bb2) (b := (0 : Int32)) rfl (by decide) hc19_11).2 (by decide) (by decide) ?_
          refine XS.iinc X0.here hx rfl (hb hby d21_25) rfl (l' := #[.val (.ref ob), .val (.int 0), .val (.int 0), .val (.int 4), .val (.int 0), .val (.int 3)]) rfl ?_
          refine XS.goto X0.here hx rfl (pc0 := 28) (pc' := 7) rfl (hb hby d21_28) (by decide) (by decide) ?_
          refine XS.iload X0.here hx rfl (hb hby d21_7) rfl ?_
          refine XS.iloadN X0.here hx rfl (hb hby d21_9) rfl ?_
          refine XS.icmpNo X0.here hx rfl (hb hby d21_10) rfl (own_tlt (a := (3 : Int32)) (b := (4 : Int32)) (by decide) (by decide) hc10_13).2.1 ?_
          refine XS.aloadN X0.here hx rfl (hb hby d21_13) rfl rfl ?_
          show Steps p.tables e below (s₁.setTop (mkF m 14 #[.val (.ref ob), .val (.int 0), .val (.int 0), .val (.int 4), .val (.int 0), .val (.int 3)] [(.ref ob)])) _
          refine XS.iload X0.here hx rfl (hb hby d21_14) rfl ?_
          refine X0.baloadBytes hx (j := (3 : Int32)) (v := (.int bb3)) (by rw [e0]; exact Ar14.1) (State.isArrayOf_alike hZ.alike Ar14.2.1) Ar14.2.2 hin14 hat14 (g := (mkF m 16 #[.val (.ref ob), .val (.int 0), .val (.int 0), .val (.int 4), .val (.int 0), .val (.int 3)] [(.int 3), (.ref ob)])) rfl rfl (hb hby d21_16) _ ?_
          refine XS.iload X0.here hx rfl (hb hby d21_17) rfl ?_
          exact kt
        by_cases hc19_15 : bb3.toInt = (0 : Int)
        · subst hSS
          obtain ⟨fs, hr, q1, q2, q3, q4⟩ := X0.leave (v := some (.int 3)) (fun h => by rw [Bd.returns] at h; cases h)
          refine ⟨_, _, pre16 _ ?_, q1, q2, _, _, rfl, ?_, ⟨_, rfl⟩, q3, q4.mono (by decide) (by decide)⟩
          · refine XS.icmpNo X0.here hx rfl (hb hby d21_19) rfl (own_teq (a := bb3) (b := (0 : Int32)) rfl (by decide) hc19_15).2 ?_
            refine XS.iload X0.here hx rfl (hb hby d21_22) rfl ?_
            exact retI X0 hx Bd.returns (hb hby d21_24) hr
          · show Q_ioc4 Z _ _ _ _ _ _ _ _ h0 n0 _ s₁.heap _
            rw [e0]
            exact ⟨_, rfl, by have iv : ((3 : Int32)).toInt = (3 : Int) := (by decide); omega, N0, rfl⟩
        · have hc10_17 : ¬ ((4 : Int) < (4 : Int)) := by decide
          subst hSS
          obtain ⟨fs, hr, q1, q2, q3, q4⟩ := X0.leave (v := some (.int (-1 : Int32))) (fun h => by rw [Bd.returns] at h; cases h)
          refine ⟨_, _, pre16 _ ?_, q1, q2, _, _, rfl, ?_, ⟨_, rfl⟩, q3, q4.mono (by decide) (by decide)⟩
          · refine XS.icmpYes X0.here hx rfl (pc0 := 19) (pc' := 25) rfl (hb hby d21_19) rfl (own_feq (a := bb3) (b := (0 : Int32)) rfl (by decide) hc19_15).2 (by decide) (by decide) ?_
            refine XS.iinc X0.here hx rfl (hb hby d21_25) rfl (l' := #[.val (.ref ob), .val (.int 0), .val (.int 0), .val (.int 4), .val (.int 0), .val (.int 4)]) rfl ?_
            refine XS.goto X0.here hx rfl (pc0 := 28) (pc' := 7) rfl (hb hby d21_28) (by decide) (by decide) ?_
            refine XS.iload X0.here hx rfl (hb hby d21_7) rfl ?_
            refine XS.iloadN X0.here hx rfl (hb hby d21_9) rfl ?_
            refine XS.icmpYes X0.here hx rfl (pc0 := 10) (pc' := 31) rfl (hb hby d21_10) rfl (own_flt (a := (4 : Int32)) (b := (4 : Int32)) (by decide) (by decide) hc10_17).2.1 (by decide) (by decide) ?_
            refine XS.iconst X0.here hx rfl (hb hby d21_31) ?_
            exact retI X0 hx Bd.returns (hb hby d21_32) hr
          · show Q_ioc4 Z _ _ _ _ _ _ _ _ h0 n0 _ s₁.heap _
            rw [e0]
            exact ⟨_, rfl, by have iv : ((-1 : Int32)).toInt = (-1 : Int) := (by decide); omega, N0, rfl⟩
theorem ef_rm_iu4 (m : MethodId) (x0 : Addr) : entryFrame m #[(.ref x0), (.int 0), (.int 0), (.int 4)] 5 = mkF m 0 #[.val (.ref x0), .val (.int 0), .val (.int 0), .val (.int 4), .unset] [] := by first | (simp [entryFrame, mkF, argsToLocals, Value.category]; done) | rfl
def Q_iu4 (Z : State) (ob : Addr) (vcs : Int32) (vf : Value) (kb : ClassId) (lo0 : Int32) (hi0 : Int32) (lo1 : Int32) (hi1 : Int32) (lo2 : Int32) (hi2 : Int32) (lo3 : Int32) (hi3 : Int32) (h0 : Heap) (n0 : Nat) (v : Option Value) (h : Heap) (L : List Loc) : Prop := ∃ z : Int32, v = some (.int z) ∧ ((0 ≤ z.toInt ∧ ((lo0.toInt % 256 + 256 * (hi0.toInt % 256)) = 0 ∨ (lo1.toInt % 256 + 256 * (hi1.toInt % 256)) = 0 ∨ (lo2.toInt % 256 + 256 * (hi2.toInt % 256)) = 0 ∨ (lo3.toInt % 256 + 256 * (hi3.toInt % 256)) = 0)) ∨ (z.toInt < 0 ∧ ¬ ((lo0.toInt % 256 + 256 * (hi0.toInt % 256)) = 0 ∨ (lo1.toInt % 256 + 256 * (hi1.toInt % 256)) = 0 ∨ (lo2.toInt % 256 + 256 * (hi2.toInt % 256)) = 0 ∨ (lo3.toInt % 256 + 256 * (hi3.toInt % 256)) = 0))) ∧ Fr n0 L ∧ h = h0
theorem rm_iu4 (l : Launch) (Z : State) (a0 : Array Value) (hw : ∀ d ∈ tables_1, d.before a0 Z = true) (ws : List Jvm.Cond) (ob : Addr) (vcs : Int32) (vf : Value) (kb : ClassId) (lo0 : Int32) (hi0 : Int32) (lo1 : Int32) (hi1 : Int32) (lo2 : Int32) (hi2 : Int32) (lo3 : Int32) (hi3 : Int32) (h0 : Heap) (n0 : Nat) (Z0 : n0 ≤ h0.size) (Os : own_st Z h0 vcs vf) (Vb : Arv Z h0 ob kb .byte (8 : Int32) [(.int lo0), (.int hi0), (.int lo1), (.int hi1), (.int lo2), (.int hi2), (.int lo3), (.int hi3)] (.int 0)) :
    MetFree l yn15 (head1 (Jvm.Cond.code yn15 kc15 5 (some .int) :: ws) ⟨1, 0, 0, 13⟩) (fun a U => a = #[(.ref ob), (.int 0), (.int 0), (.int 4)] ∧ Z.Warmed39 U.vm ∧ U.heap = h0) (fun _ _ _ _ _ => True) (fun _ U o U' => ∃ v L, o = .returned v ∧ Q_iu4 Z ob vcs vf kb lo0 hi0 lo1 hi1 lo2 hi2 lo3 hi3 h0 n0 v U'.heap L ∧ FrameEnd U o U' L 0 0) := by
  refine MetFree.of_bodySF (plainFor_of_name pn_3) hisR ?_
  intro p e s m args below meth c s₁ Bd hml0 hP hK
  obtain ⟨rfl, hZ, hh⟩ := hP
  have hx := Bd.exec
  have hby := Bd.bytes
  have hml : c.maxLocals = 5 := hml0
  have hown : s.vm.findClass "java/lang/StringUTF16" = some m.cls := findClass_of_methodNamed Bd.named
  have hnm := (name_of_methodNamed Bd.named Bd.method).1
  have X0 : Stand p l e ⟨1, 0, 0, 13⟩ s m #[(.ref ob), (.int 0), (.int 0), (.int 4)] below meth c s₁ [] 0 0 := Stand.of_body Bd
  have e0 : s₁.heap = h0 := by rw [← hh, Bd.state]; rfl
  have N0 := Fr.nil n0
  obtain ⟨SS, hSS⟩ : ∃ S, S = s₁.setTop (entryFrame m #[(.ref ob), (.int 0), (.int 0), (.int 4)] 5) := ⟨_, rfl⟩
  have pre0 : oP p e below (s₁.setTop (mkF m 0 #[.val (.ref ob), .val (.int 0), .val (.int 0), .val (.int 4), .unset] [])) (SS) := by
    rw [hSS]; exact fun t k => castTop (ef_rm_iu4 m ob) k
  have hc6_1 : (0 : Int) < (4 : Int) := by decide
  obtain ⟨_, _, ⟨T2, L2, k2, n2⟩, -, X2, ⟨Lc2, hQ2, l2, y2, z2⟩, st2⟩ := Jvm.LawKit.callS X0 hx (y := yn7) hown (mvT hZ (ow hw 116 rfl)) (mvT hZ (ow hw 117 rfl)) (mvT hZ (ow hw 39 rfl)) (mvT hZ (ow hw 118 rfl)) (by decide) (backOf (W := 0) (rm_gc l Z a0 hw [] ob (0 : Int32) vcs vf kb (8 : Int32) [(.int lo0), (.int hi0), (.int lo1), (.int hi1), (.int lo2), (.int hi2), (.int lo3), (.int hi3)] lo0 hi0 0 h0 n0 Z0 Os Vb (by decide) (by decide) (by decide) rfl rfl) hZ (ow hw 118 rfl) (ow hw 39 rfl) (by decide) (by decide)) (g := (mkF m 12 #[.val (.ref ob), .val (.int 0), .val (.int 0), .val (.int 4), .val (.int 0)] [(.int 0), (.ref ob)])) rfl (by rw [hml]; rfl) (argsL := [(.ref ob), (.int 0)]) (rest := []) (lenOf pd_5 rfl) rfl (by exact Nat.le_of_eq rfl) (hb hby d33_12) (fun _ _ => ⟨rfl, e0, (by decide : 0 + 0 ≤ _), (by decide : 0 + 0 ≤ _)⟩)
  dsimp only [Pt.U, Pt.locs, Pt.cells, Pt.slots] at X2 l2 y2 z2 st2 hQ2
  rw [l2, y2, z2] at X2
  obtain ⟨g0, rfl, hg0, N2q, e2⟩ := hQ2
  have N2 := Fr.app N0 N2q
  have pre4 : oP p e below (T2.setTop (mkF m 16 #[.val (.ref ob), .val (.int 0), .val (.int 0), .val (.int 4), .val (.int 0)] [(.int 0), (.int g0)])) (SS) := fun t kt => by
    refine pre0 _ ?_
    refine XS.iloadN X0.here hx rfl (hb hby d33_0) rfl ?_
    refine XS.istore X0.here hx rfl (hb hby d33_1) rfl (l' := #[.val (.ref ob), .val (.int 0), .val (.int 0), .val (.int 4), .val (.int 0)]) rfl ?_
    refine XS.iload X0.here hx rfl (hb hby d33_3) rfl ?_
    refine XS.iloadN X0.here hx rfl (hb hby d33_5) rfl ?_
    refine XS.icmpNo X0.here hx rfl (hb hby d33_6) rfl (own_tlt (a := (0 : Int32)) (b := (4 : Int32)) (by decide) (by decide) hc6_1).2.1 ?_
    refine XS.aloadN X0.here hx rfl (hb hby d33_9) rfl rfl ?_
    refine XS.iload X0.here hx rfl (hb hby d33_10) rfl ?_
    refine st2 _ ?_
    refine XS.iloadN X2.here hx rfl (hb hby d33_15) rfl ?_
    exact kt
  by_cases hc16_3 : g0.toInt = (0 : Int)
  · subst hSS
    obtain ⟨fs, hr, q1, q2, q3, q4⟩ := X2.leave (v := some (.int 0)) (fun h => by rw [Bd.returns] at h; cases h)
    refine ⟨_, _, pre4 _ ?_, q1, q2, _, _, rfl, ?_, ⟨_, rfl⟩, q3, q4.mono (by decide) (by decide)⟩
    · refine XS.icmpNo X2.here hx rfl (hb hby d33_16) rfl (own_teq (a := g0) (b := (0 : Int32)) rfl (by decide) hc16_3).2 ?_
      refine XS.iload X2.here hx rfl (hb hby d33_19) rfl ?_
      exact retI X2 hx Bd.returns (hb hby d33_21) hr
    · show Q_iu4 Z _ _ _ _ _ _ _ _ _ _ _ _ h0 n0 _ T2.heap _
      rw [e2]
      exact ⟨_, rfl, by have iv : ((0 : Int32)).toInt = (0 : Int) := (by decide); omega, N2, rfl⟩
  · have hc6_5 : (1 : Int) < (4 : Int) := by decide
    obtain ⟨_, _, ⟨T6, L6, k6, n6⟩, -, X6, ⟨Lc6, hQ6, l6, y6, z6⟩, st6⟩ := Jvm.LawKit.callS X2 hx (y := yn7) hown (mvT hZ (ow hw 116 rfl)) (mvT hZ (ow hw 117 rfl)) (mvT hZ (ow hw 39 rfl)) (mvT hZ (ow hw 118 rfl)) (by decide) (backOf (W := 0) (rm_gc l Z a0 hw [] ob (1 : Int32) vcs vf kb (8 : Int32) [(.int lo0), (.int hi0), (.int lo1), (.int hi1), (.int lo2), (.int hi2), (.int lo3), (.int hi3)] lo1 hi1 1 h0 n0 Z0 Os Vb (by decide) (by decide) (by decide) rfl rfl) hZ (ow hw 118 rfl) (ow hw 39 rfl) (by decide) (by decide)) (g := (mkF m 12 #[.val (.ref ob), .val (.int 0), .val (.int 0), .val (.int 4), .val (.int 1)] [(.int 1), (.ref ob)])) rfl (by rw [hml]; rfl) (argsL := [(.ref ob), (.int 1)]) (rest := []) (lenOf pd_5 rfl) rfl (by exact Nat.le_of_eq rfl) (hb hby d33_12) (fun _ _ => ⟨rfl, e2, (by decide : 0 + 0 ≤ _), (by decide : 0 + 0 ≤ _)⟩)
    dsimp only [Pt.U, Pt.locs, Pt.cells, Pt.slots] at X6 l6 y6 z6 st6 hQ6
    rw [l6, y6, z6] at X6
    obtain ⟨g1, rfl, hg1, N6q, e6⟩ := hQ6
    have N6 := Fr.app N2 N6q
    have pre8 : oP p e below (T6.setTop (mkF m 16 #[.val (.ref ob), .val (.int 0), .val (.int 0), .val (.int 4), .val (.int 1)] [(.int 0), (.int g1)])) (SS) := fun t kt => by
      refine pre4 _ ?_
      refine XS.icmpYes X2.here hx rfl (pc0 := 16) (pc' := 22) rfl (hb hby d33_16) rfl (own_feq (a := g0) (b := (0 : Int32)) rfl (by decide) hc16_3).2 (by decide) (by decide) ?_
      refine XS.iinc X2.here hx rfl (hb hby d33_22) rfl (l' := #[.val (.ref ob), .val (.int 0), .val (.int 0), .val (.int 4), .val (.int 1)]) rfl ?_
      refine XS.goto X2.here hx rfl (pc0 := 25) (pc' := 3) rfl (hb hby d33_25) (by decide) (by decide) ?_
      refine XS.iload X2.here hx rfl (hb hby d33_3) rfl ?_
      refine XS.iloadN X2.here hx rfl (hb hby d33_5) rfl ?_
      refine XS.icmpNo X2.here hx rfl (hb hby d33_6) rfl (own_tlt (a := (1 : Int32)) (b := (4 : Int32)) (by decide) (by decide) hc6_5).2.1 ?_
      refine XS.aloadN X2.here hx rfl (hb hby d33_9) rfl rfl ?_
      refine XS.iload X2.here hx rfl (hb hby d33_10) rfl ?_
      refine st6 _ ?_
      refine XS.iloadN X6.here hx rfl (hb hby d33_15) rfl ?_
      exact kt
    by_cases hc16_7 : g1.toInt = (0 : Int)
    · subst hSS
      obtain ⟨fs, hr, q1, q2, q3, q4⟩ := X6.leave (v := some (.int 1)) (fun h => by rw [Bd.returns] at h; cases h)
      refine ⟨_, _, pre8 _ ?_, q1, q2, _, _, rfl, ?_, ⟨_, rfl⟩, q3, q4.mono (by decide) (by decide)⟩
      · refine XS.icmpNo X6.here hx rfl (hb hby d33_16) rfl (own_teq (a := g1) (b := (0 : Int32)) rfl (by decide) hc16_7).2 ?_
        refine XS.iload X6.here hx rfl (hb hby d33_19) rfl ?_
        exact retI X6 hx Bd.returns (hb hby d33_21) hr
      · show Q_iu4 Z _ _ _ _ _ _ _ _ _ _ _ _ h0 n0 _ T6.heap _
        rw [e6]
        exact ⟨_, rfl, by have iv : ((1 : Int32)).toInt = (1 : Int) := (by decide); omega, N6, rfl⟩
    · have hc6_9 : (2 : Int) < (4 : Int) := by decide
      obtain ⟨_, _, ⟨T10, L10, k10, n10⟩, -, X10, ⟨Lc10, hQ10, l10, y10, z10⟩, st10⟩ := Jvm.LawKit.callS X6 hx (y := yn7) hown (mvT hZ (ow hw 116 rfl)) (mvT hZ (ow hw 117 rfl)) (mvT hZ (ow hw 39 rfl)) (mvT hZ (ow hw 118 rfl)) (by decide) (backOf (W := 0) (rm_gc l Z a0 hw [] ob (2 : Int32) vcs vf kb (8 : Int32) [(.int lo0), (.int hi0), (.int lo1), (.int hi1), (.int lo2), (.int hi2), (.int lo3), (.int hi3)] lo2 hi2 2 h0 n0 Z0 Os Vb (by decide) (by decide) (by decide) rfl rfl) hZ (ow hw 118 rfl) (ow hw 39 rfl) (by decide) (by decide)) (g := (mkF m 12 #[.val (.ref ob), .val (.int 0), .val (.int 0), .val (.int 4), .val (.int 2)] [(.int 2), (.ref ob)])) rfl (by rw [hml]; rfl) (argsL := [(.ref ob), (.int 2)]) (rest := []) (lenOf pd_5 rfl) rfl (by exact Nat.le_of_eq rfl) (hb hby d33_12) (fun _ _ => ⟨rfl, e6, (by decide : 0 + 0 ≤ _), (by decide : 0 + 0 ≤ _)⟩)
      dsimp only [Pt.U, Pt.locs, Pt.cells, Pt.slots] at X10 l10 y10 z10 st10 hQ10
      rw [l10, y10, z10] at X10
      obtain ⟨g2, rfl, hg2, N10q, e10⟩ := hQ10
      have N10 := Fr.app N6 N10q
      have pre12 : oP p e below (T10.setTop (mkF m 16 #[.val (.ref ob), .val (.int 0), .val (.int 0), .val (.int 4), .val (.int 2)] [(.int 0), (.int g2)])) (SS) := fun t kt => by
        refine pre8 _ ?_
        refine XS.icmpYes X6.here hx rfl (pc0 := 16) (pc' := 22) rfl (hb hby d33_16) rfl (own_feq (a := g1) (b := (0 : Int32)) rfl (by decide) hc16_7).2 (by decide) (by decide) ?_
        refine XS.iinc X6.here hx rfl (hb hby d33_22) rfl (l' := #[.val (.ref ob), .val (.int 0), .val (.int 0), .val (.int 4), .val (.int 2)]) rfl ?_
        refine XS.goto X6.here hx rfl (pc0 := 25) (pc' := 3) rfl (hb hby d33_25) (by decide) (by decide) ?_
        refine XS.iload X6.here hx rfl (hb hby d33_3) rfl ?_
        refine XS.iloadN X6.here hx rfl (hb hby d33_5) rfl ?_
        refine XS.icmpNo X6.here hx rfl (hb hby d33_6) rfl (own_tlt (a := (2 : Int32)) (b := (4 : Int32)) (by decide) (by decide) hc6_9).2.1 ?_
        refine XS.aloadN X6.here hx rfl (hb hby d33_9) rfl rfl ?_
        refine XS.iload X6.here hx rfl (hb hby d33_10) rfl ?_
        refine st10 _ ?_
        refine XS.iloadN X10.here hx rfl (hb hby d33_15) rfl ?_
        exact kt
      by_cases hc16_11 : g2.toInt = (0 : Int)
      · subst hSS
        obtain ⟨fs, hr, q1, q2, q3, q4⟩ := X10.leave (v := some (.int 2)) (fun h => by rw [Bd.returns] at h; cases h)
        refine ⟨_, _, pre12 _ ?_, q1, q2, _, _, rfl, ?_, ⟨_, rfl⟩, q3, q4.mono (by decide) (by decide)⟩
        · refine XS.icmpNo X10.here hx rfl (hb hby d33_16) rfl (own_teq (a := g2) (b := (0 : Int32)) rfl (by decide) hc16_11).2 ?_
          refine XS.iload X10.here hx rfl (hb hby d33_19) rfl ?_
          exact retI X10 hx Bd.returns (hb hby d33_21) hr
        · show Q_iu4 Z _ _ _ _ _ _ _ _ _ _ _ _ h0 n0 _ T10.heap _
          rw [e10]
          exact ⟨_, rfl, by have iv : ((2 : Int32)).toInt = (2 : Int) := (by decide); omega, N10, rfl⟩
      · have hc6_13 : (3 : Int) < (4 : Int) := by decide
        obtain ⟨_, _, ⟨T14, L14, k14, n14⟩, -, X14, ⟨Lc14, hQ14, l14, y14, z14⟩, st14⟩ := Jvm.LawKit.callS X10 hx (y := yn7) hown (mvT hZ (ow hw 116 rfl)) (mvT hZ (ow hw 117 rfl)) (mvT hZ (ow hw 39 rfl)) (mvT hZ (ow hw 118 rfl)) (by decide) (backOf (W := 0) (rm_gc l Z a0 hw [] ob (3 : Int32) vcs vf kb (8 : Int32) [(.int lo0), (.int hi0), (.int lo1), (.int hi1), (.int lo2), (.int hi2), (.int lo3), (.int hi3)] lo3 hi3 3 h0 n0 Z0 Os Vb (by decide) (by decide) (by decide) rfl rfl) hZ (ow hw 118 rfl) (ow hw 39 rfl) (by decide) (by decide)) (g := (mkF m 12 #[.val (.ref ob), .val (.int 0), .val (.int 0), .val (.int 4), .val (.int 3)] [(.int 3), (.ref ob)])) rfl (by rw [hml]; rfl) (argsL := [(.ref ob), (.int 3)]) (rest := []) (lenOf pd_5 rfl) rfl (by exact Nat.le_of_eq rfl) (hb hby d33_12) (fun _ _ => ⟨rfl, e10, (by decide : 0 + 0 ≤ _), (by decide : 0 + 0 ≤ _)⟩)
        dsimp only [Pt.U, Pt.locs, Pt.cells, Pt.slots] at X14 l14 y14 z14 st14 hQ14
        rw [l14, y14, z14] at X14
        obtain ⟨g3, rfl, hg3, N14q, e14⟩ := hQ14
        have N14 := Fr.app N10 N14q
        have pre16 : oP p e below (T14.setTop (mkF m 16 #[.val (.ref ob), .val (.int 0), .val (.int 0), .val (.int 4), .val (.int 3)] [(.int 0), (.int g3)])) (SS) := fun t kt => by
          refine pre12 _ ?_
          refine XS.icmpYes X10.here hx rfl (pc0 := 16) (pc' := 22) rfl (hb hby d33_16) rfl (own_feq (a := g2) (b := (0 : Int32)) rfl (by decide) hc16_11).2 (by decide) (by decide) ?_
          refine XS.iinc X10.here hx rfl (hb hby d33_22) rfl (l' := #[.val (.ref ob), .val (.int 0), .val (.int 0), .val (.int 4), .val (.int 3)]) rfl ?_
          refine XS.goto X10.here hx rfl (pc0 := 25) (pc' := 3) rfl (hb hby d33_25) (by decide) (by decide) ?_
          refine XS.iload X10.here hx rfl (hb hby d33_3) rfl ?_
          refine XS.iloadN X10.here hx rfl (hb hby d33_5) rfl ?_
          refine XS.icmpNo X10.here hx rfl (hb hby d33_6) rfl (own_tlt (a := (3 : Int32)) (b := (4 : Int32)) (by decide) (by decide) hc6_13).2.1 ?_
          refine XS.aloadN X10.here hx rfl (hb hby d33_9) rfl rfl ?_
          refine XS.iload X10.here hx rfl (hb hby d33_10) rfl ?_
          refine st14 _ ?_
          refine XS.iloadN X14.here hx rfl (hb hby d33_15) rfl ?_
          exact kt
        by_cases hc16_15 : g3.toInt = (0 : Int)
        · subst hSS
          obtain ⟨fs, hr, q1, q2, q3, q4⟩ := X14.leave (v := some (.int 3)) (fun h => by rw [Bd.returns] at h; cases h)
          refine ⟨_, _, pre16 _ ?_, q1, q2, _, _, rfl, ?_, ⟨_, rfl⟩, q3, q4.mono (by decide) (by decide)⟩
          · refine XS.icmpNo X14.here hx rfl (hb hby d33_16) rfl (own_teq (a := g3) (b := (0 : Int32)) rfl (by decide) hc16_15).2 ?_
            refine XS.iload X14.here hx rfl (hb hby d33_19) rfl ?_
            exact retI X14 hx Bd.returns (hb hby d33_21) hr
          · show Q_iu4 Z _ _ _ _ _ _ _ _ _ _ _ _ h0 n0 _ T14.heap _
            rw [e14]
            exact ⟨_, rfl, by have iv : ((3 : Int32)).toInt = (3 : Int) := (by decide); omega, N14, rfl⟩
        · have hc6_17 : ¬ ((4 : Int) < (4 : Int)) := by decide
          subst hSS
          obtain ⟨fs, hr, q1, q2, q3, q4⟩ := X14.leave (v := some (.int (-1 : Int32))) (fun h => by rw [Bd.returns] at h; cases h)
          refine ⟨_, _, pre16 _ ?_, q1, q2, _, _, rfl, ?_, ⟨_, rfl⟩, q3, q4.mono (by decide) (by decide)⟩
          · refine XS.icmpYes X14.here hx rfl (pc0 := 16) (pc' := 22) rfl (hb hby d33_16) rfl (own_feq (a := g3) (b := (0 : Int32)) rfl (by decide) hc16_15).2 (by decide) (by decide) ?_
            refine XS.iinc X14.here hx rfl (hb hby d33_22) rfl (l' := #[.val (.ref ob), .val (.int 0), .val (.int 0), .val (.int 4), .val (.int 4)]) rfl ?_
            refine XS.goto X14.here hx rfl (pc0 := 25) (pc' := 3) rfl (hb hby d33_25) (by decide) (by decide) ?_
            refine XS.iload X14.here hx rfl (hb hby d33_3) rfl ?_
            refine XS.iloadN X14.here hx rfl (hb hby d33_5) rfl ?_
            refine XS.icmpYes X14.here hx rfl (pc0 := 6) (pc' := 28) rfl (hb hby d33_6) rfl (own_flt (a := (4 : Int32)) (b := (4 : Int32)) (by decide) (by decide) hc6_17).2.1 (by decide) (by decide) ?_
            refine XS.iconst X14.here hx rfl (hb hby d33_28) ?_
            exact retI X14 hx Bd.returns (hb hby d33_29) hr
          · show Q_iu4 Z _ _ _ _ _ _ _ _ _ _ _ _ h0 n0 _ T14.heap _
            rw [e14]
            exact ⟨_, rfl, by have iv : ((-1 : Int32)).toInt = (-1 : Int) := (by decide); omega, N14, rfl⟩
theorem d17_0 : decode kc16 0 = .ok (.iload_n 1, 1) := by decide +kernel
theorem d17_1 : decode kc16 1 = .ok (.invokestatic 88, 3) := by decide +kernel
theorem d17_4 : decode kc16 4 = .ok (.ifCond .ne 5, 3) := by decide +kernel
theorem d17_9 : decode kc16 9 = .ok (.iload_n 2, 1) := by decide +kernel
theorem d17_10 : decode kc16 10 = .ok (.iconst 0, 1) := by decide +kernel
theorem d17_11 : decode kc16 11 = .ok (.invokestatic 92, 3) := by decide +kernel
theorem d17_14 : decode kc16 14 = .ok (.istore_n 2, 1) := by decide +kernel
theorem d17_15 : decode kc16 15 = .ok (.iload_n 3, 1) := by decide +kernel
theorem d17_16 : decode kc16 16 = .ok (.aload_n 0, 1) := by decide +kernel
theorem d17_17 : decode kc16 17 = .ok (.arraylength, 1) := by decide +kernel
theorem d17_18 : decode kc16 18 = .ok (.invokestatic 38, 3) := by decide +kernel
theorem d17_21 : decode kc16 21 = .ok (.istore_n 3, 1) := by decide +kernel
theorem d17_22 : decode kc16 22 = .ok (.iload_n 2, 1) := by decide +kernel
theorem d17_23 : decode kc16 23 = .ok (.iload_n 3, 1) := by decide +kernel
theorem d17_24 : decode kc16 24 = .ok (.if_icmp .lt 5, 3) := by decide +kernel
theorem d17_29 : decode kc16 29 = .ok (.aload_n 0, 1) := by decide +kernel
theorem d17_30 : decode kc16 30 = .ok (.iload_n 1, 1) := by decide +kernel
theorem d17_31 : decode kc16 31 = .ok (.iload_n 2, 1) := by decide +kernel
theorem d17_32 : decode kc16 32 = .ok (.iload_n 3, 1) := by decide +kernel
theorem d17_33 : decode kc16 33 = .ok (.invokestatic 95, 3) := by decide +kernel
theorem d17_36 : decode kc16 36 = .ok (.ireturn, 1) := by decide +kernel
theorem ef_rm_io (m : MethodId) (x0 : Addr) (x3 : Int32) : entryFrame m #[(.ref x0), (.int 0), (.int 0), (.int x3)] 4 = mkF m 0 #[.val (.ref x0), .val (.int 0), .val (.int 0), .val (.int x3)] [] := by first | (simp [entryFrame, mkF, argsToLocals, Value.category]; done) | rfl
theorem pd_6 : parseMethodDescriptor "(I)Z" = some ⟨[.int], some .boolean⟩ := by decide +kernel
theorem pd_7 : parseMethodDescriptor "(II)I" = some ⟨[.int, .int], some .int⟩ := by decide +kernel
theorem pd_8 : parseMethodDescriptor "([BIII)I" = some ⟨[(.array .byte), .int, .int, .int], some .int⟩ := by decide +kernel
def Q_io (Z : State) (ob : Addr) (vn : Int32) (vcs : Int32) (vf : Value) (kb : ClassId) (zl : Int32) (vs : List Value) (Pz : Int32 → Prop) (QH : Option Value → Heap → List Loc → Prop) (h0 : Heap) (n0 : Nat) (v : Option Value) (h : Heap) (L : List Loc) : Prop := ∃ z : Int32, v = some (.int z) ∧ (Pz z) ∧ Fr n0 L ∧ h = h0
theorem rm_io (l : Launch) (Z : State) (a0 : Array Value) (hw : ∀ d ∈ tables_1, d.before a0 Z = true) (ws : List Jvm.Cond) (ob : Addr) (vn : Int32) (vcs : Int32) (vf : Value) (kb : ClassId) (zl : Int32) (vs : List Value) (Pz : Int32 → Prop) (QH : Option Value → Heap → List Loc → Prop) (h0 : Heap) (n0 : Nat) (Z0 : n0 ≤ h0.size) (Os : own_st Z h0 vcs vf) (Vb : Arv Z h0 ob kb .byte vn vs (.int 0)) (vz : zl.toInt = vn.toInt) (vn1 : 0 < vn.toInt) (vn2 : vn.toInt ≤ 16) (H : MetFree l yn14 (head1 (Jvm.Cond.code yn14 kc14 6 (some .int) :: []) ⟨0, 0, 0, 0⟩) (fun a U => a = #[(.ref ob), (.int 0), (.int 0), (.int vn)] ∧ Z.Warmed39 U.vm ∧ U.heap = h0) (fun _ _ _ _ _ => True) (fun _ U o U' => ∃ v L, o = .returned v ∧ QH v U'.heap L ∧ FrameEnd U o U' L 0 0)) (HQ : ∀ v h L, QH v h L → ∃ z : Int32, v = some (.int z) ∧ Pz z ∧ Fr n0 L ∧ h = h0) :
    MetFree l yn16 (head1 (Jvm.Cond.code yn16 kc16 4 (some .int) :: ws) ⟨1, 0, 0, 17⟩) (fun a U => a = #[(.ref ob), (.int 0), (.int 0), (.int vn)] ∧ Z.Warmed39 U.vm ∧ U.heap = h0) (fun _ _ _ _ _ => True) (fun _ U o U' => ∃ v L, o = .returned v ∧ Q_io Z ob vn vcs vf kb zl vs Pz QH h0 n0 v U'.heap L ∧ FrameEnd U o U' L 0 0) := by
  refine MetFree.of_bodySF (plainFor_of_name pn_2) hisR ?_
  intro p e s m args below meth c s₁ Bd hml0 hP hK
  obtain ⟨rfl, hZ, hh⟩ := hP
  have hx := Bd.exec
  have hby := Bd.bytes
  have hml : c.maxLocals = 4 := hml0
  have hown : s.vm.findClass "java/lang/StringLatin1" = some m.cls := findClass_of_methodNamed Bd.named
  have hnm := (name_of_methodNamed Bd.named Bd.method).1
  have X0 : Stand p l e ⟨1, 0, 0, 17⟩ s m #[(.ref ob), (.int 0), (.int 0), (.int vn)] below meth c s₁ [] 0 0 := Stand.of_body Bd
  have e0 : s₁.heap = h0 := by rw [← hh, Bd.state]; rfl
  have N0 := Fr.nil n0
  obtain ⟨SS, hSS⟩ : ∃ S, S = s₁.setTop (entryFrame m #[(.ref ob), (.int 0), (.int 0), (.int vn)] 4) := ⟨_, rfl⟩
  have pre0 : oP p e below (s₁.setTop (mkF m 0 #[.val (.ref ob), .val (.int 0), .val (.int 0), .val (.int vn)] [])) (SS) := by
    rw [hSS]; exact fun t k => castTop (ef_rm_io m ob vn) k
  obtain ⟨_, _, ⟨T1, L1, k1, n1⟩, -, X1, ⟨Lc1, hQ1, l1, y1, z1⟩, st1⟩ := Jvm.LawKit.callS X0 hx (y := yn4) hown (mvT hZ (ow hw 87 rfl)) (mvT hZ (ow hw 88 rfl)) (mvT hZ (ow hw 56 rfl)) (mvT hZ (ow hw 89 rfl)) (by decide) (backOf (W := 0) (rm18 l Z a0 hw []  h0 n0 Z0 ) hZ (ow hw 89 rfl) (ow hw 56 rfl) (by decide) (by decide)) (g := (mkF m 1 #[.val (.ref ob), .val (.int 0), .val (.int 0), .val (.int vn)] [(.int 0)])) rfl (by rw [hml]; rfl) (argsL := [(.int 0)]) (rest := []) (lenOf pd_6 rfl) rfl (by exact Nat.le_of_eq rfl) (hb hby d17_1) (fun _ _ => ⟨rfl, e0, (by decide : 0 + 0 ≤ _), (by decide : 0 + 0 ≤ _)⟩)
  dsimp only [Pt.U, Pt.locs, Pt.cells, Pt.slots] at X1 l1 y1 z1 st1 hQ1
  rw [l1, y1, z1] at X1
  obtain ⟨ze, rfl, hze, N1q, e1⟩ := hQ1
  have N1 := Fr.app N0 N1q
  have pre2 : oP p e below (T1.setTop (mkF m 4 #[.val (.ref ob), .val (.int 0), .val (.int 0), .val (.int vn)] [(.int ze)])) (SS) := fun t kt => by
    refine pre0 _ ?_
    refine XS.iloadN X0.here hx rfl (hb hby d17_0) rfl ?_
    refine st1 _ ?_
    exact kt
  subst hze
  have pre3 : oP p e below (T1.setTop (mkF m 4 #[.val (.ref ob), .val (.int 0), .val (.int 0), .val (.int vn)] [(.int 1)])) (SS) := pre2
  have hc4_4 : ¬ ((1 : Int) = (0 : Int)) := by decide
  obtain ⟨_, _, ⟨T5, L5, k5, n5⟩, -, X5, ⟨Lc5, hQ5, l5, y5, z5⟩, st5⟩ := Jvm.LawKit.callS X1 hx (y := yn5) hown (mvT hZ (ow hw 90 rfl)) (mvT hZ (ow hw 91 rfl)) (mvT hZ (ow hw 92 rfl)) (mvT hZ (ow hw 93 rfl)) (by decide) (backOf (W := 0) (rm19 l Z a0 hw []  h0 n0 Z0 ) hZ (ow hw 93 rfl) (ow hw 92 rfl) (by decide) (by decide)) (g := (mkF m 11 #[.val (.ref ob), .val (.int 0), .val (.int 0), .val (.int vn)] [(.int 0), (.int 0)])) rfl (by rw [hml]; rfl) (argsL := [(.int 0), (.int 0)]) (rest := []) (lenOf pd_7 rfl) rfl (by exact Nat.le_of_eq rfl) (hb hby d17_11) (fun _ _ => ⟨rfl, e1, (by decide : 0 + 0 ≤ _), (by decide : 0 + 0 ≤ _)⟩)
  dsimp only [Pt.U, Pt.locs, Pt.cells, Pt.slots] at X5 l5 y5 z5 st5 hQ5
  rw [l5, y5, z5] at X5
  obtain ⟨zm, rfl, hzm, N5q, e5⟩ := hQ5
  have N5 := Fr.app N1 N5q
  have pre6 : oP p e below (T5.setTop (mkF m 14 #[.val (.ref ob), .val (.int 0), .val (.int 0), .val (.int vn)] [(.int zm)])) (SS) := fun t kt => by
    refine pre3 _ ?_
    refine XS.ifYes X1.here hx rfl (pc0 := 4) (pc' := 9) rfl (hb hby d17_4) rfl (own_if (own_feq (a := (1 : Int32)) (b := (0 : Int32)) (by decide) (by decide) hc4_4).2) (by decide) (by decide) ?_
    refine XS.iloadN X1.here hx rfl (hb hby d17_9) rfl ?_
    refine XS.iconst X1.here hx rfl (hb hby d17_10) ?_
    refine st5 _ ?_
    exact kt
  subst hzm
  have pre7 : oP p e below (T5.setTop (mkF m 14 #[.val (.ref ob), .val (.int 0), .val (.int 0), .val (.int vn)] [(.int 0)])) (SS) := pre6
  obtain ⟨cl8, Ar8, q8, S8, M8, H8, G8⟩ := id Vb
  obtain ⟨_, _, ⟨T9, L9, k9, n9⟩, -, X9, ⟨Lc9, hQ9, l9, y9, z9⟩, st9⟩ := Jvm.LawKit.callS X5 hx (y := yn6) hown (mvT hZ (ow hw 94 rfl)) (mvT hZ (ow hw 95 rfl)) (mvT hZ (ow hw 92 rfl)) (mvT hZ (ow hw 96 rfl)) (by decide) (backOf (W := 0) (rm20 l Z a0 hw [] vn vn h0 n0 Z0 rfl) hZ (ow hw 96 rfl) (ow hw 92 rfl) (by decide) (by decide)) (g := (mkF m 18 #[.val (.ref ob), .val (.int 0), .val (.int 0), .val (.int vn)] [(.int vn), (.int vn)])) rfl (by rw [hml]; rfl) (argsL := [(.int vn), (.int vn)]) (rest := []) (lenOf pd_7 rfl) rfl (by exact Nat.le_of_eq rfl) (hb hby d17_18) (fun _ _ => ⟨rfl, e5, (by decide : 0 + 0 ≤ _), (by decide : 0 + 0 ≤ _)⟩)
  dsimp only [Pt.U, Pt.locs, Pt.cells, Pt.slots] at X9 l9 y9 z9 st9 hQ9
  rw [l9, y9, z9] at X9
  obtain ⟨zn, rfl, hzn, N9q, e9⟩ := hQ9
  have N9 := Fr.app N5 N9q
  have pre10 : oP p e below (T9.setTop (mkF m 21 #[.val (.ref ob), .val (.int 0), .val (.int 0), .val (.int vn)] [(.int zn)])) (SS) := fun t kt => by
    refine pre7 _ ?_
    refine XS.istoreN X5.here hx rfl (hb hby d17_14) rfl (l' := #[.val (.ref ob), .val (.int 0), .val (.int 0), .val (.int vn)]) rfl ?_
    refine XS.iloadN X5.here hx rfl (hb hby d17_15) rfl ?_
    refine XS.aloadN X5.here hx rfl (hb hby d17_16) rfl rfl ?_
    refine X5.arraylength hx (by rw [e5]; exact Ar8.1) (State.isArrayOf_alike hZ.alike Ar8.2.1) (g := (mkF m 17 #[.val (.ref ob), .val (.int 0), .val (.int 0), .val (.int vn)] [(.ref ob), (.int vn)])) rfl rfl (hb hby d17_17) _ ?_
    rw [len_of S8 M8]
    refine st9 _ ?_
    exact kt
  have ezn : vn = zn := hzn.symm
  subst ezn
  have hc24_11 : (0 : Int) < vn.toInt := by omega
  obtain ⟨_, _, ⟨T12, L12, k12, n12⟩, -, X12, ⟨Lc12, hQ12, l12, y12, z12⟩, st12⟩ := Jvm.LawKit.callS X9 hx (y := yn14) hown (mvT hZ (ow hw 97 rfl)) (mvT hZ (ow hw 98 rfl)) (mvT hZ (ow hw 56 rfl)) (mvT hZ (ow hw 99 rfl)) (by decide) (backOf (W := 0) H hZ (ow hw 99 rfl) (ow hw 56 rfl) (by decide) (by decide)) (g := (mkF m 33 #[.val (.ref ob), .val (.int 0), .val (.int 0), .val (.int vn)] [(.int vn), (.int 0), (.int 0), (.ref ob)])) rfl (by rw [hml]; rfl) (argsL := [(.ref ob), (.int 0), (.int 0), (.int vn)]) (rest := []) (lenOf pd_8 rfl) rfl (by exact Nat.le_of_eq rfl) (hb hby d17_33) (fun _ _ => ⟨rfl, e9, (by decide : 0 + 0 ≤ _), (by decide : 0 + 0 ≤ _)⟩)
  dsimp only [Pt.U, Pt.locs, Pt.cells, Pt.slots] at X12 l12 y12 z12 st12 hQ12
  rw [l12, y12, z12] at X12
  obtain ⟨zi, rfl, hzi, N12q, e12⟩ := HQ _ _ _ hQ12
  have N12 := Fr.app N9 N12q
  subst hSS
  obtain ⟨fs, hr, q1, q2, q3, q4⟩ := X12.leave (v := some (.int zi)) (fun h => by rw [Bd.returns] at h; cases h)
  refine ⟨_, _, pre10 _ ?_, q1, q2, _, _, rfl, ?_, ⟨_, rfl⟩, q3, q4.mono (by decide) (by decide)⟩
  · refine XS.istoreN X9.here hx rfl (hb hby d17_21) rfl (l' := #[.val (.ref ob), .val (.int 0), .val (.int 0), .val (.int vn)]) rfl ?_
    refine XS.iloadN X9.here hx rfl (hb hby d17_22) rfl ?_
    refine XS.iloadN X9.here hx rfl (hb hby d17_23) rfl ?_
    refine XS.icmpYes X9.here hx rfl (pc0 := 24) (pc' := 29) rfl (hb hby d17_24) rfl (own_tlt (a := (0 : Int32)) (b := vn) (by decide) rfl hc24_11).1 (by decide) (by decide) ?_
    refine XS.aloadN X9.here hx rfl (hb hby d17_29) rfl rfl ?_
    refine XS.iloadN X9.here hx rfl (hb hby d17_30) rfl ?_
    refine XS.iloadN X9.here hx rfl (hb hby d17_31) rfl ?_
    refine XS.iloadN X9.here hx rfl (hb hby d17_32) rfl ?_
    show Steps p.tables e below (T9.setTop (mkF m 33 #[.val (.ref ob), .val (.int 0), .val (.int 0), .val (.int vn)] [(.int vn), (.int 0), (.int 0), (.ref ob)])) _
    refine st12 _ ?_
    exact retI X12 hx Bd.returns (hb hby d17_36) hr
  · show Q_io Z _ _ _ _ _ _ _ _ _ h0 n0 _ T12.heap _
    rw [e12]
    exact ⟨_, rfl, hzi, N12, rfl⟩
theorem d28_0 : decode kc17 0 = .ok (.iload_n 2, 1) := by decide +kernel
theorem d28_1 : decode kc17 1 = .ok (.iload_n 3, 1) := by decide +kernel
theorem d28_2 : decode kc17 2 = .ok (.aload_n 0, 1) := by decide +kernel
theorem d28_3 : decode kc17 3 = .ok (.invokestatic 96, 3) := by decide +kernel
theorem d28_6 : decode kc17 6 = .ok (.aload_n 0, 1) := by decide +kernel
theorem d28_7 : decode kc17 7 = .ok (.iload_n 1, 1) := by decide +kernel
theorem d28_8 : decode kc17 8 = .ok (.iload_n 2, 1) := by decide +kernel
theorem d28_9 : decode kc17 9 = .ok (.iload_n 3, 1) := by decide +kernel
theorem d28_10 : decode kc17 10 = .ok (.invokestatic 244, 3) := by decide +kernel
theorem d28_13 : decode kc17 13 = .ok (.ireturn, 1) := by decide +kernel
theorem ef_rm_uc (m : MethodId) (x0 : Addr) (x3 : Int32) : entryFrame m #[(.ref x0), (.int 0), (.int 0), (.int x3)] 4 = mkF m 0 #[.val (.ref x0), .val (.int 0), .val (.int 0), .val (.int x3)] [] := by first | (simp [entryFrame, mkF, argsToLocals, Value.category]; done) | rfl
theorem pd_9 : parseMethodDescriptor "(II[B)V" = some ⟨[.int, .int, (.array .byte)], none⟩ := by decide +kernel
def Q_uc (Z : State) (ob : Addr) (vn : Int32) (vcs : Int32) (vf : Value) (kb : ClassId) (zl : Int32) (vs : List Value) (Pz : Int32 → Prop) (QH : Option Value → Heap → List Loc → Prop) (h0 : Heap) (n0 : Nat) (v : Option Value) (h : Heap) (L : List Loc) : Prop := ∃ z : Int32, v = some (.int z) ∧ (Pz z) ∧ Fr n0 L ∧ h = h0
theorem rm_uc (l : Launch) (Z : State) (a0 : Array Value) (hw : ∀ d ∈ tables_1, d.before a0 Z = true) (ws : List Jvm.Cond) (ob : Addr) (vn : Int32) (vcs : Int32) (vf : Value) (kb : ClassId) (zl : Int32) (vs : List Value) (Pz : Int32 → Prop) (QH : Option Value → Heap → List Loc → Prop) (h0 : Heap) (n0 : Nat) (Z0 : n0 ≤ h0.size) (Os : own_st Z h0 vcs vf) (Vb : Arv Z h0 ob kb .byte zl vs (.int 0)) (vz : zl.toInt = 2 * vn.toInt) (vn1 : 0 < vn.toInt) (vn2 : vn.toInt ≤ 16) (H : MetFree l yn15 (head1 (Jvm.Cond.code yn15 kc15 5 (some .int) :: []) ⟨1, 0, 0, 13⟩) (fun a U => a = #[(.ref ob), (.int 0), (.int 0), (.int vn)] ∧ Z.Warmed39 U.vm ∧ U.heap = h0) (fun _ _ _ _ _ => True) (fun _ U o U' => ∃ v L, o = .returned v ∧ QH v U'.heap L ∧ FrameEnd U o U' L 0 0)) (HQ : ∀ v h L, QH v h L → ∃ z : Int32, v = some (.int z) ∧ Pz z ∧ Fr n0 L ∧ h = h0) :
    MetFree l yn17 (head1 (Jvm.Cond.code yn17 kc17 4 (some .int) :: ws) ⟨3, 0, 0, 43⟩) (fun a U => a = #[(.ref ob), (.int 0), (.int 0), (.int vn)] ∧ Z.Warmed39 U.vm ∧ U.heap = h0) (fun _ _ _ _ _ => True) (fun _ U o U' => ∃ v L, o = .returned v ∧ Q_uc Z ob vn vcs vf kb zl vs Pz QH h0 n0 v U'.heap L ∧ FrameEnd U o U' L 0 0) := by
  refine MetFree.of_bodySF (plainFor_of_name pn_3) hisR ?_
  intro p e s m args below meth c s₁ Bd hml0 hP hK
  obtain ⟨rfl, hZ, hh⟩ := hP
  have hx := Bd.exec
  have hby := Bd.bytes
  have hml : c.maxLocals = 4 := hml0
  have hown : s.vm.findClass "java/lang/StringUTF16" = some m.cls := findClass_of_methodNamed Bd.named
  have hnm := (name_of_methodNamed Bd.named Bd.method).1
  have X0 : Stand p l e ⟨3, 0, 0, 43⟩ s m #[(.ref ob), (.int 0), (.int 0), (.int vn)] below meth c s₁ [] 0 0 := Stand.of_body Bd
  have e0 : s₁.heap = h0 := by rw [← hh, Bd.state]; rfl
  have N0 := Fr.nil n0
  obtain ⟨SS, hSS⟩ : ∃ S, S = s₁.setTop (entryFrame m #[(.ref ob), (.int 0), (.int 0), (.int vn)] 4) := ⟨_, rfl⟩
  have pre0 : oP p e below (s₁.setTop (mkF m 0 #[.val (.ref ob), .val (.int 0), .val (.int 0), .val (.int vn)] [])) (SS) := by
    rw [hSS]; exact fun t k => castTop (ef_rm_uc m ob vn) k
  obtain ⟨_, _, ⟨T1, L1, k1, n1⟩, -, X1, ⟨Lc1, hQ1, l1, y1, z1⟩, st1⟩ := Jvm.LawKit.callS X0 hx (y := yn11) hown (mvT hZ (ow hw 128 rfl)) (mvT hZ (ow hw 129 rfl)) (mvT hZ (ow hw 39 rfl)) (mvT hZ (ow hw 130 rfl)) (by decide) (backOf (W := 0) (rm_ucb l Z a0 hw [] vn ob vcs vf kb zl vs h0 n0 Z0 Os Vb (by omega) (by omega)) hZ (ow hw 130 rfl) (ow hw 39 rfl) (by decide) (by decide)) (g := (mkF m 3 #[.val (.ref ob), .val (.int 0), .val (.int 0), .val (.int vn)] [(.ref ob), (.int vn), (.int 0)])) rfl (by rw [hml]; rfl) (argsL := [(.int 0), (.int vn), (.ref ob)]) (rest := []) (lenOf pd_9 rfl) rfl (by exact Nat.le_of_eq rfl) (hb hby d28_3) (fun _ _ => ⟨rfl, e0, (by decide : 0 + 0 ≤ _), (by decide : 0 + 0 ≤ _)⟩)
  dsimp only [Pt.U, Pt.locs, Pt.cells, Pt.slots] at X1 l1 y1 z1 st1 hQ1
  rw [l1, y1, z1] at X1
  obtain ⟨rfl, N1q, e1⟩ := hQ1
  have N1 := Fr.app N0 N1q
  obtain ⟨_, _, ⟨T2, L2, k2, n2⟩, -, X2, ⟨Lc2, hQ2, l2, y2, z2⟩, st2⟩ := Jvm.LawKit.callS X1 hx (y := yn15) hown (mvT hZ (ow hw 142 rfl)) (mvT hZ (ow hw 143 rfl)) (mvT hZ (ow hw 39 rfl)) (mvT hZ (ow hw 144 rfl)) (by decide) (backOf (W := 0) H hZ (ow hw 144 rfl) (ow hw 39 rfl) (by decide) (by decide)) (g := (mkF m 10 #[.val (.ref ob), .val (.int 0), .val (.int 0), .val (.int vn)] [(.int vn), (.int 0), (.int 0), (.ref ob)])) rfl (by rw [hml]; rfl) (argsL := [(.ref ob), (.int 0), (.int 0), (.int vn)]) (rest := []) (lenOf pd_8 rfl) rfl (by exact Nat.le_of_eq rfl) (hb hby d28_10) (fun _ _ => ⟨rfl, e1, (by decide : 0 + 0 ≤ _), (by decide : 0 + 0 ≤ _)⟩)
  dsimp only [Pt.U, Pt.locs, Pt.cells, Pt.slots] at X2 l2 y2 z2 st2 hQ2
  rw [l2, y2, z2] at X2
  obtain ⟨zi, rfl, hzi, N2q, e2⟩ := HQ _ _ _ hQ2
  have N2 := Fr.app N1 N2q
  subst hSS
  obtain ⟨fs, hr, q1, q2, q3, q4⟩ := X2.leave (v := some (.int zi)) (fun h => by rw [Bd.returns] at h; cases h)
  refine ⟨_, _, pre0 _ ?_, q1, q2, _, _, rfl, ?_, ⟨_, rfl⟩, q3, q4.mono (by decide) (by decide)⟩
  · refine XS.iloadN X0.here hx rfl (hb hby d28_0) rfl ?_
    refine XS.iloadN X0.here hx rfl (hb hby d28_1) rfl ?_
    refine XS.aloadN X0.here hx rfl (hb hby d28_2) rfl rfl ?_
    refine st1 _ ?_
    refine XS.aloadN X1.here hx rfl (hb hby d28_6) rfl rfl ?_
    refine XS.iloadN X1.here hx rfl (hb hby d28_7) rfl ?_
    refine XS.iloadN X1.here hx rfl (hb hby d28_8) rfl ?_
    refine XS.iloadN X1.here hx rfl (hb hby d28_9) rfl ?_
    refine st2 _ ?_
    exact retI X2 hx Bd.returns (hb hby d28_13) hr
  · show Q_uc Z _ _ _ _ _ _ _ _ _ h0 n0 _ T2.heap _
    rw [e2]
    exact ⟨_, rfl, hzi, N2, rfl⟩
theorem d27_0 : decode kc18 0 = .ok (.iload_n 2, 1) := by decide +kernel
theorem d27_1 : decode kc18 1 = .ok (.iconst 0, 1) := by decide +kernel
theorem d27_2 : decode kc18 2 = .ok (.invokestatic 224, 3) := by decide +kernel
theorem d27_5 : decode kc18 5 = .ok (.istore_n 2, 1) := by decide +kernel
theorem d27_6 : decode kc18 6 = .ok (.iload_n 3, 1) := by decide +kernel
theorem d27_7 : decode kc18 7 = .ok (.aload_n 0, 1) := by decide +kernel
theorem d27_8 : decode kc18 8 = .ok (.arraylength, 1) := by decide +kernel
theorem d27_9 : decode kc18 9 = .ok (.iconst 1, 1) := by decide +kernel
theorem d27_10 : decode kc18 10 = .ok (.ishr, 1) := by decide +kernel
theorem d27_11 : decode kc18 11 = .ok (.invokestatic 183, 3) := by decide +kernel
theorem d27_14 : decode kc18 14 = .ok (.istore_n 3, 1) := by decide +kernel
theorem d27_15 : decode kc18 15 = .ok (.iload_n 2, 1) := by decide +kernel
theorem d27_16 : decode kc18 16 = .ok (.iload_n 3, 1) := by decide +kernel
theorem d27_17 : decode kc18 17 = .ok (.if_icmp .lt 5, 3) := by decide +kernel
theorem d27_22 : decode kc18 22 = .ok (.iload_n 1, 1) := by decide +kernel
theorem d27_23 : decode kc18 23 = .ok (.ldc 227, 2) := by decide +kernel
theorem d27_25 : decode kc18 25 = .ok (.if_icmp .ge 11, 3) := by decide +kernel
theorem d27_28 : decode kc18 28 = .ok (.aload_n 0, 1) := by decide +kernel
theorem d27_29 : decode kc18 29 = .ok (.iload_n 1, 1) := by decide +kernel
theorem d27_30 : decode kc18 30 = .ok (.iload_n 2, 1) := by decide +kernel
theorem d27_31 : decode kc18 31 = .ok (.iload_n 3, 1) := by decide +kernel
theorem d27_32 : decode kc18 32 = .ok (.invokestatic 228, 3) := by decide +kernel
theorem d27_35 : decode kc18 35 = .ok (.ireturn, 1) := by decide +kernel
theorem ef_rm_ux (m : MethodId) (x0 : Addr) (x3 : Int32) : entryFrame m #[(.ref x0), (.int 0), (.int 0), (.int x3)] 4 = mkF m 0 #[.val (.ref x0), .val (.int 0), .val (.int 0), .val (.int x3)] [] := by first | (simp [entryFrame, mkF, argsToLocals, Value.category]; done) | rfl
def Q_ux (Z : State) (ob : Addr) (vn : Int32) (vcs : Int32) (vf : Value) (kb : ClassId) (zl : Int32) (vs : List Value) (Pz : Int32 → Prop) (QH : Option Value → Heap → List Loc → Prop) (h0 : Heap) (n0 : Nat) (v : Option Value) (h : Heap) (L : List Loc) : Prop := ∃ z : Int32, v = some (.int z) ∧ (Pz z) ∧ Fr n0 L ∧ h = h0
theorem rm_ux (l : Launch) (Z : State) (a0 : Array Value) (hw : ∀ d ∈ tables_1, d.before a0 Z = true) (ws : List Jvm.Cond) (ob : Addr) (vn : Int32) (vcs : Int32) (vf : Value) (kb : ClassId) (zl : Int32) (vs : List Value) (Pz : Int32 → Prop) (QH : Option Value → Heap → List Loc → Prop) (h0 : Heap) (n0 : Nat) (Z0 : n0 ≤ h0.size) (Os : own_st Z h0 vcs vf) (Vb : Arv Z h0 ob kb .byte zl vs (.int 0)) (vz : zl.toInt = 2 * vn.toInt) (vn1 : 0 < vn.toInt) (vn2 : vn.toInt ≤ 16) (H : MetFree l yn15 (head1 (Jvm.Cond.code yn15 kc15 5 (some .int) :: []) ⟨1, 0, 0, 13⟩) (fun a U => a = #[(.ref ob), (.int 0), (.int 0), (.int vn)] ∧ Z.Warmed39 U.vm ∧ U.heap = h0) (fun _ _ _ _ _ => True) (fun _ U o U' => ∃ v L, o = .returned v ∧ QH v U'.heap L ∧ FrameEnd U o U' L 0 0)) (HQ : ∀ v h L, QH v h L → ∃ z : Int32, v = some (.int z) ∧ Pz z ∧ Fr n0 L ∧ h = h0) :
    MetFree l yn18 (head1 (Jvm.Cond.code yn18 kc18 4 (some .int) :: ws) ⟨4, 0, 0, 58⟩) (fun a U => a = #[(.ref ob), (.int 0), (.int 0), (.int vn)] ∧ Z.Warmed39 U.vm ∧ U.heap = h0) (fun _ _ _ _ _ => True) (fun _ U o U' => ∃ v L, o = .returned v ∧ Q_ux Z ob vn vcs vf kb zl vs Pz QH h0 n0 v U'.heap L ∧ FrameEnd U o U' L 0 0) := by
  refine MetFree.of_bodySF (plainFor_of_name pn_3) hisR ?_
  intro p e s m args below meth c s₁ Bd hml0 hP hK
  obtain ⟨rfl, hZ, hh⟩ := hP
  have hx := Bd.exec
  have hby := Bd.bytes
  have hml : c.maxLocals = 4 := hml0
  have hown : s.vm.findClass "java/lang/StringUTF16" = some m.cls := findClass_of_methodNamed Bd.named
  have hnm := (name_of_methodNamed Bd.named Bd.method).1
  have X0 : Stand p l e ⟨4, 0, 0, 58⟩ s m #[(.ref ob), (.int 0), (.int 0), (.int vn)] below meth c s₁ [] 0 0 := Stand.of_body Bd
  have e0 : s₁.heap = h0 := by rw [← hh, Bd.state]; rfl
  have N0 := Fr.nil n0
  obtain ⟨SS, hSS⟩ : ∃ S, S = s₁.setTop (entryFrame m #[(.ref ob), (.int 0), (.int 0), (.int vn)] 4) := ⟨_, rfl⟩
  have pre0 : oP p e below (s₁.setTop (mkF m 0 #[.val (.ref ob), .val (.int 0), .val (.int 0), .val (.int vn)] [])) (SS) := by
    rw [hSS]; exact fun t k => castTop (ef_rm_ux m ob vn) k
  obtain ⟨_, _, ⟨T1, L1, k1, n1⟩, -, X1, ⟨Lc1, hQ1, l1, y1, z1⟩, st1⟩ := Jvm.LawKit.callS X0 hx (y := yn5) hown (mvT hZ (ow hw 122 rfl)) (mvT hZ (ow hw 91 rfl)) (mvT hZ (ow hw 92 rfl)) (mvT hZ (ow hw 93 rfl)) (by decide) (backOf (W := 0) (rm19 l Z a0 hw []  h0 n0 Z0 ) hZ (ow hw 93 rfl) (ow hw 92 rfl) (by decide) (by decide)) (g := (mkF m 2 #[.val (.ref ob), .val (.int 0), .val (.int 0), .val (.int vn)] [(.int 0), (.int 0)])) rfl (by rw [hml]; rfl) (argsL := [(.int 0), (.int 0)]) (rest := []) (lenOf pd_7 rfl) rfl (by exact Nat.le_of_eq rfl) (hb hby d27_2) (fun _ _ => ⟨rfl, e0, (by decide : 0 + 0 ≤ _), (by decide : 0 + 0 ≤ _)⟩)
  dsimp only [Pt.U, Pt.locs, Pt.cells, Pt.slots] at X1 l1 y1 z1 st1 hQ1
  rw [l1, y1, z1] at X1
  obtain ⟨zm, rfl, hzm, N1q, e1⟩ := hQ1
  have N1 := Fr.app N0 N1q
  have pre2 : oP p e below (T1.setTop (mkF m 5 #[.val (.ref ob), .val (.int 0), .val (.int 0), .val (.int vn)] [(.int zm)])) (SS) := fun t kt => by
    refine pre0 _ ?_
    refine XS.iloadN X0.here hx rfl (hb hby d27_0) rfl ?_
    refine XS.iconst X0.here hx rfl (hb hby d27_1) ?_
    refine st1 _ ?_
    exact kt
  subst hzm
  have pre3 : oP p e below (T1.setTop (mkF m 5 #[.val (.ref ob), .val (.int 0), .val (.int 0), .val (.int vn)] [(.int 0)])) (SS) := pre2
  obtain ⟨cl4, Ar4, q4, S4, M4, H4, G4⟩ := id Vb
  have pre5 : oP p e below (T1.setTop (mkF m 11 #[.val (.ref ob), .val (.int 0), .val (.int 0), .val (.int vn)] [(.int (zl >>> ((1 : Int32) &&& 31))), (.int vn)])) (SS) := fun t kt => by
    refine pre3 _ ?_
    refine XS.istoreN X1.here hx rfl (hb hby d27_5) rfl (l' := #[.val (.ref ob), .val (.int 0), .val (.int 0), .val (.int vn)]) rfl ?_
    refine XS.iloadN X1.here hx rfl (hb hby d27_6) rfl ?_
    refine XS.aloadN X1.here hx rfl (hb hby d27_7) rfl rfl ?_
    refine X1.arraylength hx (by rw [e1]; exact Ar4.1) (State.isArrayOf_alike hZ.alike Ar4.2.1) (g := (mkF m 8 #[.val (.ref ob), .val (.int 0), .val (.int 0), .val (.int vn)] [(.ref ob), (.int vn)])) rfl rfl (hb hby d27_8) _ ?_
    rw [len_of S4 M4]
    refine XS.iconst X1.here hx rfl (hb hby d27_9) ?_
    refine XS.ishr X1.here hx rfl (hb hby d27_10) rfl ?_
    exact kt
  obtain ⟨zh, hzh⟩ : ∃ z : Int32, z = (zl >>> ((1 : Int32) &&& 31)) := ⟨_, rfl⟩
  have izh : zh.toInt = vn.toInt := by rw [hzh]; have := rng32 zl; have : ((zl >>> ((1 : Int32) &&& 31))).toInt = zl.toInt / 2 := c_ishr zl (1 : Int32) 1 (by decide); omega
  have pre6 : oP p e below (T1.setTop (mkF m 11 #[.val (.ref ob), .val (.int 0), .val (.int 0), .val (.int vn)] [(.int zh), (.int vn)])) (SS) := by rw [hzh]; exact pre5
  obtain ⟨_, _, ⟨T7, L7, k7, n7⟩, -, X7, ⟨Lc7, hQ7, l7, y7, z7⟩, st7⟩ := Jvm.LawKit.callS X1 hx (y := yn6) hown (mvT hZ (ow hw 123 rfl)) (mvT hZ (ow hw 95 rfl)) (mvT hZ (ow hw 92 rfl)) (mvT hZ (ow hw 96 rfl)) (by decide) (backOf (W := 0) (rm20 l Z a0 hw [] vn zh h0 n0 Z0 (by omega)) hZ (ow hw 96 rfl) (ow hw 92 rfl) (by decide) (by decide)) (g := (mkF m 11 #[.val (.ref ob), .val (.int 0), .val (.int 0), .val (.int vn)] [(.int zh), (.int vn)])) rfl (by rw [hml]; rfl) (argsL := [(.int vn), (.int zh)]) (rest := []) (lenOf pd_7 rfl) rfl (by exact Nat.le_of_eq rfl) (hb hby d27_11) (fun _ _ => ⟨rfl, e1, (by decide : 0 + 0 ≤ _), (by decide : 0 + 0 ≤ _)⟩)
  dsimp only [Pt.U, Pt.locs, Pt.cells, Pt.slots] at X7 l7 y7 z7 st7 hQ7
  rw [l7, y7, z7] at X7
  obtain ⟨zn, rfl, hzn, N7q, e7⟩ := hQ7
  have N7 := Fr.app N1 N7q
  have pre8 : oP p e below (T7.setTop (mkF m 14 #[.val (.ref ob), .val (.int 0), .val (.int 0), .val (.int vn)] [(.int zn)])) (SS) := fun t kt => by
    refine pre6 _ ?_
    refine st7 _ ?_
    exact kt
  have ezn : vn = zn := hzn.symm
  subst ezn
  have hc17_9 : (0 : Int) < vn.toInt := by omega
  have hc25_10 : (0 : Int) < (65536 : Int) := by decide
  obtain ⟨_, _, ⟨T11, L11, k11, n11⟩, -, X11, ⟨Lc11, hQ11, l11, y11, z11⟩, st11⟩ := Jvm.LawKit.callS X7 hx (y := yn17) hown (mvT hZ (ow hw 125 rfl)) (mvT hZ (ow hw 126 rfl)) (mvT hZ (ow hw 39 rfl)) (mvT hZ (ow hw 127 rfl)) (by decide) (backOf (W := 0) (rm_uc l Z a0 hw [] ob vn vcs vf kb zl vs Pz QH h0 n0 Z0 Os Vb vz vn1 vn2 H HQ) hZ (ow hw 127 rfl) (ow hw 39 rfl) (by decide) (by decide)) (g := (mkF m 32 #[.val (.ref ob), .val (.int 0), .val (.int 0), .val (.int vn)] [(.int vn), (.int 0), (.int 0), (.ref ob)])) rfl (by rw [hml]; rfl) (argsL := [(.ref ob), (.int 0), (.int 0), (.int vn)]) (rest := []) (lenOf pd_8 rfl) rfl (by exact Nat.le_of_eq rfl) (hb hby d27_32) (fun _ _ => ⟨rfl, e7, (by decide : 0 + 0 ≤ _), (by decide : 0 + 0 ≤ _)⟩)
  dsimp only [Pt.U, Pt.locs, Pt.cells, Pt.slots] at X11 l11 y11 z11 st11 hQ11
  rw [l11, y11, z11] at X11
  obtain ⟨zi, rfl, hzi, N11q, e11⟩ := hQ11
  have N11 := Fr.app N7 N11q
  subst hSS
  obtain ⟨fs, hr, q1, q2, q3, q4⟩ := X11.leave (v := some (.int zi)) (fun h => by rw [Bd.returns] at h; cases h)
  refine ⟨_, _, pre8 _ ?_, q1, q2, _, _, rfl, ?_, ⟨_, rfl⟩, q3, q4.mono (by decide) (by decide)⟩
  · refine XS.istoreN X7.here hx rfl (hb hby d27_14) rfl (l' := #[.val (.ref ob), .val (.int 0), .val (.int 0), .val (.int vn)]) rfl ?_
    refine XS.iloadN X7.here hx rfl (hb hby d27_15) rfl ?_
    refine XS.iloadN X7.here hx rfl (hb hby d27_16) rfl ?_
    refine XS.icmpYes X7.here hx rfl (pc0 := 17) (pc' := 22) rfl (hb hby d27_17) rfl (own_tlt (a := (0 : Int32)) (b := vn) (by decide) rfl hc17_9).1 (by decide) (by decide) ?_
    refine XS.iloadN X7.here hx rfl (hb hby d27_22) rfl ?_
    refine X7.ldcInt hx hown (mvT hZ (ow hw 124 rfl)) (g := (mkF m 23 #[.val (.ref ob), .val (.int 0), .val (.int 0), .val (.int vn)] [(.int 0)])) rfl (hb hby d27_23) _ ?_
    refine XS.icmpNo X7.here hx rfl (hb hby d27_25) rfl (own_tlt (a := (0 : Int32)) (b := (65536 : Int32)) (by decide) (by decide) hc25_10).2.1 ?_
    refine XS.aloadN X7.here hx rfl (hb hby d27_28) rfl rfl ?_
    refine XS.iloadN X7.here hx rfl (hb hby d27_29) rfl ?_
    show Steps p.tables e below (T7.setTop (mkF m 30 #[.val (.ref ob), .val (.int 0), .val (.int 0), .val (.int vn)] [(.int 0), (.ref ob)])) _
    refine XS.iloadN X7.here hx rfl (hb hby d27_30) rfl ?_
    refine XS.iloadN X7.here hx rfl (hb hby d27_31) rfl ?_
    refine st11 _ ?_
    exact retI X11 hx Bd.returns (hb hby d27_35) hr
  · show Q_ux Z _ _ _ _ _ _ _ _ _ h0 n0 _ T11.heap _
    rw [e11]
    exact ⟨_, rfl, hzi, N11, rfl⟩
theorem d14_0 : decode kc19 0 = .ok (.getstatic 38, 3) := by decide +kernel
theorem d14_3 : decode kc19 3 = .ok (.ifCond .eq 14, 3) := by decide +kernel
theorem d14_6 : decode kc19 6 = .ok (.aload_n 0, 1) := by decide +kernel
theorem d14_7 : decode kc19 7 = .ok (.getfield 15, 3) := by decide +kernel
theorem d14_10 : decode kc19 10 = .ok (.ifCond .ne 7, 3) := by decide +kernel
theorem d14_13 : decode kc19 13 = .ok (.iconst 1, 1) := by decide +kernel
theorem d14_14 : decode kc19 14 = .ok (.goto 4, 3) := by decide +kernel
theorem d14_18 : decode kc19 18 = .ok (.ireturn, 1) := by decide +kernel
theorem ef_rm_lat0 (m : MethodId) (x0 : Addr) : entryFrame m #[(.ref x0)] 1 = mkF m 0 #[.val (.ref x0)] [] := by first | (simp [entryFrame, mkF, argsToLocals, Value.category]; done) | rfl
def Q_lat0 (Z : State) (oa : Addr) (vcs : Int32) (vf : Value) (h0 : Heap) (n0 : Nat) (v : Option Value) (h : Heap) (L : List Loc) : Prop := ∃ z : Int32, v = some (.int z) ∧ (z = (1 : Int32)) ∧ Fr n0 L ∧ h = h0
theorem rm_lat0 (l : Launch) (Z : State) (a0 : Array Value) (hw : ∀ d ∈ tables_1, d.before a0 Z = true) (ws : List Jvm.Cond) (oa : Addr) (vcs : Int32) (vf : Value) (h0 : Heap) (n0 : Nat) (Z0 : n0 ≤ h0.size) (Os : own_st Z h0 vcs vf) (Fc : Fld Z h0 oa "java/lang/String" "coder" "B" (.int 0)) :
    MetFree l yn19 (head1 (Jvm.Cond.code yn19 kc19 1 (some .boolean) :: ws) ⟨0, 0, 0, 0⟩) (fun a U => a = #[(.ref oa)] ∧ Z.Warmed39 U.vm ∧ U.heap = h0) (fun _ _ _ _ _ => True) (fun _ U o U' => ∃ v L, o = .returned v ∧ Q_lat0 Z oa vcs vf h0 n0 v U'.heap L ∧ FrameEnd U o U' L 0 0) := by
  refine MetFree.of_bodySF (plainFor_of_name pn_1) hisR ?_
  intro p e s m args below meth c s₁ Bd hml0 hP hK
  obtain ⟨rfl, hZ, hh⟩ := hP
  have hx := Bd.exec
  have hby := Bd.bytes
  have hml : c.maxLocals = 1 := hml0
  have hown : s.vm.findClass "java/lang/String" = some m.cls := findClass_of_methodNamed Bd.named
  have hnm := (name_of_methodNamed Bd.named Bd.method).1
  have X0 : Stand p l e ⟨0, 0, 0, 0⟩ s m #[(.ref oa)] below meth c s₁ [] 0 0 := Stand.of_body Bd
  have e0 : s₁.heap = h0 := by rw [← hh, Bd.state]; rfl
  have N0 := Fr.nil n0
  obtain ⟨SS, hSS⟩ : ∃ S, S = s₁.setTop (entryFrame m #[(.ref oa)] 1) := ⟨_, rfl⟩
  have pre0 : oP p e below (s₁.setTop (mkF m 0 #[.val (.ref oa)] [])) (SS) := by
    rw [hSS]; exact fun t k => castTop (ef_rm_lat0 m oa) k
  obtain ⟨T1, X1, e1, st1⟩ := getS2 X0 hx hZ hown (host := "") (Or.inl (ow hw 36 rfl)) Via.refl e0 Os.1 (g := (mkF m 0 #[.val (.ref oa)] [])) rfl (hb hby d14_0)
  have hc3_2 : ¬ (vcs.toInt = (0 : Int)) := by (have q := Os.2.1; omega)
  obtain ⟨T3, X3, e3, st3⟩ := getF X1 hx hZ hown (host := "") (Or.inl (ow hw 26 rfl)) Via.refl e1 Fc (g := (mkF m 7 #[.val (.ref oa)] [(.ref oa)])) rfl rfl (hb hby d14_7)
  have hc10_4 : (0 : Int) = (0 : Int) := by decide
  subst hSS
  obtain ⟨fs, hr, q1, q2, q3, q4⟩ := X3.leave (v := some (.int 1)) (fun h => by rw [Bd.returns] at h; cases h)
  refine ⟨_, _, pre0 _ ?_, q1, q2, _, _, rfl, ?_, ⟨_, rfl⟩, q3, q4.mono (by decide) (by decide)⟩
  · refine st1 _ ?_
    refine XS.ifNo X1.here hx rfl (hb hby d14_3) rfl (own_if (own_feq (a := vcs) (b := (0 : Int32)) rfl (by decide) hc3_2).1) ?_
    refine XS.aloadN X1.here hx rfl (hb hby d14_6) rfl rfl ?_
    refine st3 _ ?_
    refine XS.ifNo X3.here hx rfl (hb hby d14_10) rfl (own_if (own_teq (a := (0 : Int32)) (b := (0 : Int32)) (by decide) (by decide) hc10_4).2) ?_
    refine XS.iconst X3.here hx rfl (hb hby d14_13) ?_
    refine XS.goto X3.here hx rfl (pc0 := 14) (pc' := 18) rfl (hb hby d14_14) (by decide) (by decide) ?_
    exact retN X3 hx (t := .boolean) Bd.returns (by simp) (hb hby d14_18) hr
  · show Q_lat0 Z _ _ _ h0 n0 _ T3.heap _
    rw [e3]
    exact ⟨_, rfl, rfl, N0, rfl⟩
theorem d13_0 : decode kc20 0 = .ok (.aload_n 0, 1) := by decide +kernel
theorem d13_1 : decode kc20 1 = .ok (.invokevirtual 492, 3) := by decide +kernel
theorem d13_4 : decode kc20 4 = .ok (.ifCond .eq 19, 3) := by decide +kernel
theorem d13_7 : decode kc20 7 = .ok (.aload_n 0, 1) := by decide +kernel
theorem d13_8 : decode kc20 8 = .ok (.getfield 9, 3) := by decide +kernel
theorem d13_11 : decode kc20 11 = .ok (.iload_n 1, 1) := by decide +kernel
theorem d13_12 : decode kc20 12 = .ok (.iload_n 2, 1) := by decide +kernel
theorem d13_13 : decode kc20 13 = .ok (.aload_n 0, 1) := by decide +kernel
theorem d13_14 : decode kc20 14 = .ok (.invokevirtual 505, 3) := by decide +kernel
theorem d13_17 : decode kc20 17 = .ok (.invokestatic 637, 3) := by decide +kernel
theorem d13_20 : decode kc20 20 = .ok (.goto 16, 3) := by decide +kernel
theorem d13_36 : decode kc20 36 = .ok (.ireturn, 1) := by decide +kernel
theorem ef_rm_si0 (m : MethodId) (x0 : Addr) : entryFrame m #[(.ref x0), (.int 0), (.int 0)] 3 = mkF m 0 #[.val (.ref x0), .val (.int 0), .val (.int 0)] [] := by first | (simp [entryFrame, mkF, argsToLocals, Value.category]; done) | rfl
theorem pd_10 : parseMethodDescriptor "()Z" = some ⟨[], some .boolean⟩ := by decide +kernel
theorem pd_11 : parseMethodDescriptor "()I" = some ⟨[], some .int⟩ := by decide +kernel
def Q_si0 (Z : State) (oa : Addr) (vcs : Int32) (vf : Value) (ob : Addr) (kb : ClassId) (vn : Int32) (zl : Int32) (vs : List Value) (Pz : Int32 → Prop) (QH : Option Value → Heap → List Loc → Prop) (h0 : Heap) (n0 : Nat) (v : Option Value) (h : Heap) (L : List Loc) : Prop := ∃ z : Int32, v = some (.int z) ∧ (Pz z) ∧ Fr n0 L ∧ h = h0
theorem rm_si0 (l : Launch) (Z : State) (a0 : Array Value) (hw : ∀ d ∈ tables_1, d.before a0 Z = true) (ws : List Jvm.Cond) (oa : Addr) (vcs : Int32) (vf : Value) (ob : Addr) (kb : ClassId) (vn : Int32) (zl : Int32) (vs : List Value) (Pz : Int32 → Prop) (QH : Option Value → Heap → List Loc → Prop) (h0 : Heap) (n0 : Nat) (Z0 : n0 ≤ h0.size) (Os : own_st Z h0 vcs vf) (Es : Exa Z h0 oa "java/lang/String") (Fc : Fld Z h0 oa "java/lang/String" "coder" "B" (.int 0)) (Fv : Fld Z h0 oa "java/lang/String" "value" "[B" (.ref ob)) (Vb : Arv Z h0 ob kb .byte vn vs (.int 0)) (vz : zl.toInt = vn.toInt) (vn1 : 0 < vn.toInt) (vn2 : vn.toInt ≤ 16) (H : MetFree l yn14 (head1 (Jvm.Cond.code yn14 kc14 6 (some .int) :: []) ⟨0, 0, 0, 0⟩) (fun a U => a = #[(.ref ob), (.int 0), (.int 0), (.int vn)] ∧ Z.Warmed39 U.vm ∧ U.heap = h0) (fun _ _ _ _ _ => True) (fun _ U o U' => ∃ v L, o = .returned v ∧ QH v U'.heap L ∧ FrameEnd U o U' L 0 0)) (HQ : ∀ v h L, QH v h L → ∃ z : Int32, v = some (.int z) ∧ Pz z ∧ Fr n0 L ∧ h = h0) :
    MetFree l yn20 (head1 (Jvm.Cond.code yn20 kc20 3 (some .int) :: ws) ⟨2, 0, 0, 32⟩) (fun a U => a = #[(.ref oa), (.int 0), (.int 0)] ∧ Z.Warmed39 U.vm ∧ U.heap = h0) (fun _ _ _ _ _ => True) (fun _ U o U' => ∃ v L, o = .returned v ∧ Q_si0 Z oa vcs vf ob kb vn zl vs Pz QH h0 n0 v U'.heap L ∧ FrameEnd U o U' L 0 0) := by
  refine MetFree.of_bodySF (plainFor_of_name pn_1) hisR ?_
  intro p e s m args below meth c s₁ Bd hml0 hP hK
  obtain ⟨rfl, hZ, hh⟩ := hP
  have hx := Bd.exec
  have hby := Bd.bytes
  have hml : c.maxLocals = 3 := hml0
  have hown : s.vm.findClass "java/lang/String" = some m.cls := findClass_of_methodNamed Bd.named
  have hnm := (name_of_methodNamed Bd.named Bd.method).1
  have X0 : Stand p l e ⟨2, 0, 0, 32⟩ s m #[(.ref oa), (.int 0), (.int 0)] below meth c s₁ [] 0 0 := Stand.of_body Bd
  have e0 : s₁.heap = h0 := by rw [← hh, Bd.state]; rfl
  have N0 := Fr.nil n0
  obtain ⟨SS, hSS⟩ : ∃ S, S = s₁.setTop (entryFrame m #[(.ref oa), (.int 0), (.int 0)] 3) := ⟨_, rfl⟩
  have pre0 : oP p e below (s₁.setTop (mkF m 0 #[.val (.ref oa), .val (.int 0), .val (.int 0)] [])) (SS) := by
    rw [hSS]; exact fun t k => castTop (ef_rm_si0 m oa) k
  obtain ⟨cq1, kq1, q1a, q1b, q1c⟩ := isOf hZ e0 Es
  obtain ⟨_, _, ⟨T1, L1, k1, n1⟩, -, X1, ⟨Lc1, hQ1, l1, y1, z1⟩, st1⟩ := X0.virtualBack hx (y := yn19) (z := yn19) hown (mvT hZ (ow hw 69 rfl)) (mvT hZ (ow hw 70 rfl)) (notFace_of_selects (args := #[]) (mvT hZ (ow hw 72 rfl))) (mvT hZ (ow hw 72 rfl)) (mvT hZ (ow hw 71 rfl)) (by decide) (backOf (W := 0) (rm_lat0 l Z a0 hw [] oa vcs vf h0 n0 Z0 Os Fc) hZ (ow hw 73 rfl) (ow hw 8 rfl) (by decide) (by decide)) q1a q1c (g := (mkF m 1 #[.val (.ref oa), .val (.int 0), .val (.int 0)] [(.ref oa)])) rfl (by rw [hml]; rfl) (Steps.refl _) (argsL := []) (rest := []) (lenOf pd_10 rfl) rfl (by exact Nat.le_of_eq rfl) (hb hby d13_1) (fun _ _ => ⟨rfl, e0, (by decide : 0 + 0 ≤ _), (by decide : 0 + 0 ≤ _)⟩)
  dsimp only [Pt.U, Pt.locs, Pt.cells, Pt.slots] at X1 l1 y1 z1 st1 hQ1
  rw [l1, y1, z1] at X1
  obtain ⟨zl1, rfl, hzl1, N1q, e1⟩ := hQ1
  have N1 := Fr.app N0 N1q
  have pre2 : oP p e below (T1.setTop (mkF m 4 #[.val (.ref oa), .val (.int 0), .val (.int 0)] [(.int zl1)])) (SS) := fun t kt => by
    refine pre0 _ ?_
    refine XS.aloadN X0.here hx rfl (hb hby d13_0) rfl rfl ?_
    refine st1.trans ?_
    exact kt
  subst hzl1
  have pre3 : oP p e below (T1.setTop (mkF m 4 #[.val (.ref oa), .val (.int 0), .val (.int 0)] [(.int 1)])) (SS) := pre2
  have hc4_4 : ¬ ((1 : Int) = (0 : Int)) := by decide
  obtain ⟨T5, X5, e5, st5⟩ := getF X1 hx hZ hown (host := "") (Or.inl (ow hw 25 rfl)) Via.refl e1 Fv (g := (mkF m 8 #[.val (.ref oa), .val (.int 0), .val (.int 0)] [(.ref oa)])) rfl rfl (hb hby d13_8)
  obtain ⟨cq6, kq6, q6a, q6b, q6c⟩ := isOf hZ e5 Es
  obtain ⟨_, _, ⟨T6, L6, k6, n6⟩, -, X6, ⟨Lc6, hQ6, l6, y6, z6⟩, st6⟩ := X5.virtualBack hx (y := yn13) (z := yn13) hown (mvT hZ (ow hw 74 rfl)) (mvT hZ (ow hw 75 rfl)) (notFace_of_selects (args := #[]) (mvT hZ (ow hw 77 rfl))) (mvT hZ (ow hw 77 rfl)) (mvT hZ (ow hw 76 rfl)) (by decide) (backOf (W := 3) (rm_lg0 l Z a0 hw [] oa vcs vf ob kb vn vs h0 n0 Z0 Os Es Fc Fv Vb) hZ (ow hw 78 rfl) (ow hw 8 rfl) (by decide) (by decide)) q6a q6c (g := (mkF m 14 #[.val (.ref oa), .val (.int 0), .val (.int 0)] [(.ref oa), (.int 0), (.int 0), (.ref ob)])) rfl (by rw [hml]; rfl) (Steps.refl _) (argsL := []) (rest := [(.int 0), (.int 0), (.ref ob)]) (lenOf pd_11 rfl) rfl (by exact Nat.le_of_eq rfl) (hb hby d13_14) (fun _ _ => ⟨rfl, e5, (by decide : 0 + 0 ≤ _), (by decide : 0 + 0 ≤ _)⟩)
  dsimp only [Pt.U, Pt.locs, Pt.cells, Pt.slots] at X6 l6 y6 z6 st6 hQ6
  rw [l6, y6, z6] at X6
  obtain ⟨zk, rfl, hzk, N6q, e6⟩ := hQ6
  have N6 := Fr.app N1 N6q
  have pre7 : oP p e below (T6.setTop (mkF m 17 #[.val (.ref oa), .val (.int 0), .val (.int 0)] [(.int zk), (.int 0), (.int 0), (.ref ob)])) (SS) := fun t kt => by
    refine pre3 _ ?_
    refine XS.ifNo X1.here hx rfl (hb hby d13_4) rfl (own_if (own_feq (a := (1 : Int32)) (b := (0 : Int32)) (by decide) (by decide) hc4_4).1) ?_
    refine XS.aloadN X1.here hx rfl (hb hby d13_7) rfl rfl ?_
    refine st5 _ ?_
    refine XS.iloadN X5.here hx rfl (hb hby d13_11) rfl ?_
    refine XS.iloadN X5.here hx rfl (hb hby d13_12) rfl ?_
    refine XS.aloadN X5.here hx rfl (hb hby d13_13) rfl rfl ?_
    refine st6.trans ?_
    exact kt
  have ezk : vn = zk := Int32.toInt_inj.mp (by omega)
  subst ezk
  obtain ⟨_, _, ⟨T8, L8, k8, n8⟩, -, X8, ⟨Lc8, hQ8, l8, y8, z8⟩, st8⟩ := Jvm.LawKit.callS X6 hx (y := yn16) hown (mvT hZ (ow hw 84 rfl)) (mvT hZ (ow hw 85 rfl)) (mvT hZ (ow hw 56 rfl)) (mvT hZ (ow hw 86 rfl)) (by decide) (backOf (W := 0) (rm_io l Z a0 hw [] ob vn vcs vf kb zl vs Pz QH h0 n0 Z0 Os Vb vz vn1 vn2 H HQ) hZ (ow hw 86 rfl) (ow hw 56 rfl) (by decide) (by decide)) (g := (mkF m 17 #[.val (.ref oa), .val (.int 0), .val (.int 0)] [(.int vn), (.int 0), (.int 0), (.ref ob)])) rfl (by rw [hml]; rfl) (argsL := [(.ref ob), (.int 0), (.int 0), (.int vn)]) (rest := []) (lenOf pd_8 rfl) rfl (by exact Nat.le_of_eq rfl) (hb hby d13_17) (fun _ _ => ⟨rfl, e6, (by decide : 0 + 0 ≤ _), (by decide : 0 + 0 ≤ _)⟩)
  dsimp only [Pt.U, Pt.locs, Pt.cells, Pt.slots] at X8 l8 y8 z8 st8 hQ8
  rw [l8, y8, z8] at X8
  obtain ⟨zi, rfl, hzi, N8q, e8⟩ := hQ8
  have N8 := Fr.app N6 N8q
  subst hSS
  obtain ⟨fs, hr, q1, q2, q3, q4⟩ := X8.leave (v := some (.int zi)) (fun h => by rw [Bd.returns] at h; cases h)
  refine ⟨_, _, pre7 _ ?_, q1, q2, _, _, rfl, ?_, ⟨_, rfl⟩, q3, q4.mono (by decide) (by decide)⟩
  · refine st8 _ ?_
    refine XS.goto X8.here hx rfl (pc0 := 20) (pc' := 36) rfl (hb hby d13_20) (by decide) (by decide) ?_
    exact retI X8 hx Bd.returns (hb hby d13_36) hr
  · show Q_si0 Z _ _ _ _ _ _ _ _ _ _ h0 n0 _ T8.heap _
    rw [e8]
    exact ⟨_, rfl, hzi, N8, rfl⟩
theorem d12_0 : decode kc21 0 = .ok (.aload_n 0, 1) := by decide +kernel
theorem d12_1 : decode kc21 1 = .ok (.iload_n 1, 1) := by decide +kernel
theorem d12_2 : decode kc21 2 = .ok (.iconst 0, 1) := by decide +kernel
theorem d12_3 : decode kc21 3 = .ok (.invokevirtual 633, 3) := by decide +kernel
theorem d12_6 : decode kc21 6 = .ok (.ireturn, 1) := by decide +kernel
theorem ef_rm_sx0 (m : MethodId) (x0 : Addr) : entryFrame m #[(.ref x0), (.int 0)] 2 = mkF m 0 #[.val (.ref x0), .val (.int 0)] [] := by first | (simp [entryFrame, mkF, argsToLocals, Value.category]; done) | rfl
def Q_sx0 (Z : State) (oa : Addr) (vcs : Int32) (vf : Value) (ob : Addr) (kb : ClassId) (vn : Int32) (zl : Int32) (vs : List Value) (Pz : Int32 → Prop) (QH : Option Value → Heap → List Loc → Prop) (h0 : Heap) (n0 : Nat) (v : Option Value) (h : Heap) (L : List Loc) : Prop := ∃ z : Int32, v = some (.int z) ∧ (Pz z) ∧ Fr n0 L ∧ h = h0
theorem rm_sx0 (l : Launch) (Z : State) (a0 : Array Value) (hw : ∀ d ∈ tables_1, d.before a0 Z = true) (ws : List Jvm.Cond) (oa : Addr) (vcs : Int32) (vf : Value) (ob : Addr) (kb : ClassId) (vn : Int32) (zl : Int32) (vs : List Value) (Pz : Int32 → Prop) (QH : Option Value → Heap → List Loc → Prop) (h0 : Heap) (n0 : Nat) (Z0 : n0 ≤ h0.size) (Os : own_st Z h0 vcs vf) (Es : Exa Z h0 oa "java/lang/String") (Fc : Fld Z h0 oa "java/lang/String" "coder" "B" (.int 0)) (Fv : Fld Z h0 oa "java/lang/String" "value" "[B" (.ref ob)) (Vb : Arv Z h0 ob kb .byte vn vs (.int 0)) (vz : zl.toInt = vn.toInt) (vn1 : 0 < vn.toInt) (vn2 : vn.toInt ≤ 16) (H : MetFree l yn14 (head1 (Jvm.Cond.code yn14 kc14 6 (some .int) :: []) ⟨0, 0, 0, 0⟩) (fun a U => a = #[(.ref ob), (.int 0), (.int 0), (.int vn)] ∧ Z.Warmed39 U.vm ∧ U.heap = h0) (fun _ _ _ _ _ => True) (fun _ U o U' => ∃ v L, o = .returned v ∧ QH v U'.heap L ∧ FrameEnd U o U' L 0 0)) (HQ : ∀ v h L, QH v h L → ∃ z : Int32, v = some (.int z) ∧ Pz z ∧ Fr n0 L ∧ h = h0) :
    MetFree l yn21 (head1 (Jvm.Cond.code yn21 kc21 2 (some .int) :: ws) ⟨3, 0, 0, 46⟩) (fun a U => a = #[(.ref oa), (.int 0)] ∧ Z.Warmed39 U.vm ∧ U.heap = h0) (fun _ _ _ _ _ => True) (fun _ U o U' => ∃ v L, o = .returned v ∧ Q_sx0 Z oa vcs vf ob kb vn zl vs Pz QH h0 n0 v U'.heap L ∧ FrameEnd U o U' L 0 0) := by
  refine MetFree.of_bodySF (plainFor_of_name pn_1) hisR ?_
  intro p e s m args below meth c s₁ Bd hml0 hP hK
  obtain ⟨rfl, hZ, hh⟩ := hP
  have hx := Bd.exec
  have hby := Bd.bytes
  have hml : c.maxLocals = 2 := hml0
  have hown : s.vm.findClass "java/lang/String" = some m.cls := findClass_of_methodNamed Bd.named
  have hnm := (name_of_methodNamed Bd.named Bd.method).1
  have X0 : Stand p l e ⟨3, 0, 0, 46⟩ s m #[(.ref oa), (.int 0)] below meth c s₁ [] 0 0 := Stand.of_body Bd
  have e0 : s₁.heap = h0 := by rw [← hh, Bd.state]; rfl
  have N0 := Fr.nil n0
  obtain ⟨SS, hSS⟩ : ∃ S, S = s₁.setTop (entryFrame m #[(.ref oa), (.int 0)] 2) := ⟨_, rfl⟩
  have pre0 : oP p e below (s₁.setTop (mkF m 0 #[.val (.ref oa), .val (.int 0)] [])) (SS) := by
    rw [hSS]; exact fun t k => castTop (ef_rm_sx0 m oa) k
  obtain ⟨cq1, kq1, q1a, q1b, q1c⟩ := isOf hZ e0 Es
  obtain ⟨_, _, ⟨T1, L1, k1, n1⟩, -, X1, ⟨Lc1, hQ1, l1, y1, z1⟩, st1⟩ := X0.virtualBack hx (y := yn20) (z := yn20) hown (mvT hZ (ow hw 64 rfl)) (mvT hZ (ow hw 65 rfl)) (notFace_of_selects (args := #[]) (mvT hZ (ow hw 67 rfl))) (mvT hZ (ow hw 67 rfl)) (mvT hZ (ow hw 66 rfl)) (by decide) (backOf (W := 0) (rm_si0 l Z a0 hw [] oa vcs vf ob kb vn zl vs Pz QH h0 n0 Z0 Os Es Fc Fv Vb vz vn1 vn2 H HQ) hZ (ow hw 68 rfl) (ow hw 8 rfl) (by decide) (by decide)) q1a q1c (g := (mkF m 3 #[.val (.ref oa), .val (.int 0)] [(.int 0), (.int 0), (.ref oa)])) rfl (by rw [hml]; rfl) (Steps.refl _) (argsL := [(.int 0), (.int 0)]) (rest := []) (lenOf pd_7 rfl) rfl (by exact Nat.le_of_eq rfl) (hb hby d12_3) (fun _ _ => ⟨rfl, e0, (by decide : 0 + 0 ≤ _), (by decide : 0 + 0 ≤ _)⟩)
  dsimp only [Pt.U, Pt.locs, Pt.cells, Pt.slots] at X1 l1 y1 z1 st1 hQ1
  rw [l1, y1, z1] at X1
  obtain ⟨zi, rfl, hzi, N1q, e1⟩ := hQ1
  have N1 := Fr.app N0 N1q
  subst hSS
  obtain ⟨fs, hr, q1, q2, q3, q4⟩ := X1.leave (v := some (.int zi)) (fun h => by rw [Bd.returns] at h; cases h)
  refine ⟨_, _, pre0 _ ?_, q1, q2, _, _, rfl, ?_, ⟨_, rfl⟩, q3, q4.mono (by decide) (by decide)⟩
  · refine XS.aloadN X0.here hx rfl (hb hby d12_0) rfl rfl ?_
    refine XS.iloadN X0.here hx rfl (hb hby d12_1) rfl ?_
    refine XS.iconst X0.here hx rfl (hb hby d12_2) ?_
    refine st1.trans ?_
    exact retI X1 hx Bd.returns (hb hby d12_6) hr
  · show Q_sx0 Z _ _ _ _ _ _ _ _ _ _ h0 n0 _ T1.heap _
    rw [e1]
    exact ⟨_, rfl, hzi, N1, rfl⟩
theorem d14_17 : decode kc19 17 = .ok (.iconst 0, 1) := by decide +kernel
theorem ef_rm_lat1 (m : MethodId) (x0 : Addr) : entryFrame m #[(.ref x0)] 1 = mkF m 0 #[.val (.ref x0)] [] := by first | (simp [entryFrame, mkF, argsToLocals, Value.category]; done) | rfl
def Q_lat1 (Z : State) (oa : Addr) (vcs : Int32) (vf : Value) (h0 : Heap) (n0 : Nat) (v : Option Value) (h : Heap) (L : List Loc) : Prop := ∃ z : Int32, v = some (.int z) ∧ (z = (0 : Int32)) ∧ Fr n0 L ∧ h = h0
theorem rm_lat1 (l : Launch) (Z : State) (a0 : Array Value) (hw : ∀ d ∈ tables_1, d.before a0 Z = true) (ws : List Jvm.Cond) (oa : Addr) (vcs : Int32) (vf : Value) (h0 : Heap) (n0 : Nat) (Z0 : n0 ≤ h0.size) (Os : own_st Z h0 vcs vf) (Fc : Fld Z h0 oa "java/lang/String" "coder" "B" (.int 1)) :
    MetFree l yn19 (head1 (Jvm.Cond.code yn19 kc19 1 (some .boolean) :: ws) ⟨0, 0, 0, 0⟩) (fun a U => a = #[(.ref oa)] ∧ Z.Warmed39 U.vm ∧ U.heap = h0) (fun _ _ _ _ _ => True) (fun _ U o U' => ∃ v L, o = .returned v ∧ Q_lat1 Z oa vcs vf h0 n0 v U'.heap L ∧ FrameEnd U o U' L 0 0) := by
  refine MetFree.of_bodySF (plainFor_of_name pn_1) hisR ?_
  intro p e s m args below meth c s₁ Bd hml0 hP hK
  obtain ⟨rfl, hZ, hh⟩ := hP
  have hx := Bd.exec
  have hby := Bd.bytes
  have hml : c.maxLocals = 1 := hml0
  have hown : s.vm.findClass "java/lang/String" = some m.cls := findClass_of_methodNamed Bd.named
  have hnm := (name_of_methodNamed Bd.named Bd.method).1
  have X0 : Stand p l e ⟨0, 0, 0, 0⟩ s m #[(.ref oa)] below meth c s₁ [] 0 0 := Stand.of_body Bd
  have e0 : s₁.heap = h0 := by rw [← hh, Bd.state]; rfl
  have N0 := Fr.nil n0
  obtain ⟨SS, hSS⟩ : ∃ S, S = s₁.setTop (entryFrame m #[(.ref oa)] 1) := ⟨_, rfl⟩
  have pre0 : oP p e below (s₁.setTop (mkF m 0 #[.val (.ref oa)] [])) (SS) := by
    rw [hSS]; exact fun t k => castTop (ef_rm_lat1 m oa) k
  obtain ⟨T1, X1, e1, st1⟩ := getS2 X0 hx hZ hown (host := "") (Or.inl (ow hw 36 rfl)) Via.refl e0 Os.1 (g := (mkF m 0 #[.val (.ref oa)] [])) rfl (hb hby d14_0)
  have hc3_2 : ¬ (vcs.toInt = (0 : Int)) := by (have q := Os.2.1; omega)
  obtain ⟨T3, X3, e3, st3⟩ := getF X1 hx hZ hown (host := "") (Or.inl (ow hw 26 rfl)) Via.refl e1 Fc (g := (mkF m 7 #[.val (.ref oa)] [(.ref oa)])) rfl rfl (hb hby d14_7)
  have hc10_4 : ¬ ((1 : Int) = (0 : Int)) := by decide
  subst hSS
  obtain ⟨fs, hr, q1, q2, q3, q4⟩ := X3.leave (v := some (.int 0)) (fun h => by rw [Bd.returns] at h; cases h)
  refine ⟨_, _, pre0 _ ?_, q1, q2, _, _, rfl, ?_, ⟨_, rfl⟩, q3, q4.mono (by decide) (by decide)⟩
  · refine st1 _ ?_
    refine XS.ifNo X1.here hx rfl (hb hby d14_3) rfl (own_if (own_feq (a := vcs) (b := (0 : Int32)) rfl (by decide) hc3_2).1) ?_
    refine XS.aloadN X1.here hx rfl (hb hby d14_6) rfl rfl ?_
    refine st3 _ ?_
    refine XS.ifYes X3.here hx rfl (pc0 := 10) (pc' := 17) rfl (hb hby d14_10) rfl (own_if (own_feq (a := (1 : Int32)) (b := (0 : Int32)) (by decide) (by decide) hc10_4).2) (by decide) (by decide) ?_
    refine XS.iconst X3.here hx rfl (hb hby d14_17) ?_
    exact retN X3 hx (t := .boolean) Bd.returns (by simp) (hb hby d14_18) hr
  · show Q_lat1 Z _ _ _ h0 n0 _ T3.heap _
    rw [e3]
    exact ⟨_, rfl, rfl, N0, rfl⟩
theorem d13_23 : decode kc20 23 = .ok (.aload_n 0, 1) := by decide +kernel
theorem d13_24 : decode kc20 24 = .ok (.getfield 9, 3) := by decide +kernel
theorem d13_27 : decode kc20 27 = .ok (.iload_n 1, 1) := by decide +kernel
theorem d13_28 : decode kc20 28 = .ok (.iload_n 2, 1) := by decide +kernel
theorem d13_29 : decode kc20 29 = .ok (.aload_n 0, 1) := by decide +kernel
theorem d13_30 : decode kc20 30 = .ok (.invokevirtual 505, 3) := by decide +kernel
theorem d13_33 : decode kc20 33 = .ok (.invokestatic 640, 3) := by decide +kernel
theorem ef_rm_si1 (m : MethodId) (x0 : Addr) : entryFrame m #[(.ref x0), (.int 0), (.int 0)] 3 = mkF m 0 #[.val (.ref x0), .val (.int 0), .val (.int 0)] [] := by first | (simp [entryFrame, mkF, argsToLocals, Value.category]; done) | rfl
def Q_si1 (Z : State) (oa : Addr) (vcs : Int32) (vf : Value) (ob : Addr) (kb : ClassId) (vn : Int32) (zl : Int32) (vs : List Value) (Pz : Int32 → Prop) (QH : Option Value → Heap → List Loc → Prop) (h0 : Heap) (n0 : Nat) (v : Option Value) (h : Heap) (L : List Loc) : Prop := ∃ z : Int32, v = some (.int z) ∧ (Pz z) ∧ Fr n0 L ∧ h = h0
theorem rm_si1 (l : Launch) (Z : State) (a0 : Array Value) (hw : ∀ d ∈ tables_1, d.before a0 Z = true) (ws : List Jvm.Cond) (oa : Addr) (vcs : Int32) (vf : Value) (ob : Addr) (kb : ClassId) (vn : Int32) (zl : Int32) (vs : List Value) (Pz : Int32 → Prop) (QH : Option Value → Heap → List Loc → Prop) (h0 : Heap) (n0 : Nat) (Z0 : n0 ≤ h0.size) (Os : own_st Z h0 vcs vf) (Es : Exa Z h0 oa "java/lang/String") (Fc : Fld Z h0 oa "java/lang/String" "coder" "B" (.int 1)) (Fv : Fld Z h0 oa "java/lang/String" "value" "[B" (.ref ob)) (Vb : Arv Z h0 ob kb .byte zl vs (.int 0)) (vz : zl.toInt = 2 * vn.toInt) (vn1 : 0 < vn.toInt) (vn2 : vn.toInt ≤ 16) (H : MetFree l yn15 (head1 (Jvm.Cond.code yn15 kc15 5 (some .int) :: []) ⟨1, 0, 0, 13⟩) (fun a U => a = #[(.ref ob), (.int 0), (.int 0), (.int vn)] ∧ Z.Warmed39 U.vm ∧ U.heap = h0) (fun _ _ _ _ _ => True) (fun _ U o U' => ∃ v L, o = .returned v ∧ QH v U'.heap L ∧ FrameEnd U o U' L 0 0)) (HQ : ∀ v h L, QH v h L → ∃ z : Int32, v = some (.int z) ∧ Pz z ∧ Fr n0 L ∧ h = h0) :
    MetFree l yn20 (head1 (Jvm.Cond.code yn20 kc20 3 (some .int) :: ws) ⟨5, 0, 0, 73⟩) (fun a U => a = #[(.ref oa), (.int 0), (.int 0)] ∧ Z.Warmed39 U.vm ∧ U.heap = h0) (fun _ _ _ _ _ => True) (fun _ U o U' => ∃ v L, o = .returned v ∧ Q_si1 Z oa vcs vf ob kb vn zl vs Pz QH h0 n0 v U'.heap L ∧ FrameEnd U o U' L 0 0) := by
  refine MetFree.of_bodySF (plainFor_of_name pn_1) hisR ?_
  intro p e s m args below meth c s₁ Bd hml0 hP hK
  obtain ⟨rfl, hZ, hh⟩ := hP
  have hx := Bd.exec
  have hby := Bd.bytes
  have hml : c.maxLocals = 3 := hml0
  have hown : s.vm.findClass "java/lang/String" = some m.cls := findClass_of_methodNamed Bd.named
  have hnm := (name_of_methodNamed Bd.named Bd.method).1
  have X0 : Stand p l e ⟨5, 0, 0, 73⟩ s m #[(.ref oa), (.int 0), (.int 0)] below meth c s₁ [] 0 0 := Stand.of_body Bd
  have e0 : s₁.heap = h0 := by rw [← hh, Bd.state]; rfl
  have N0 := Fr.nil n0
  obtain ⟨SS, hSS⟩ : ∃ S, S = s₁.setTop (entryFrame m #[(.ref oa), (.int 0), (.int 0)] 3) := ⟨_, rfl⟩
  have pre0 : oP p e below (s₁.setTop (mkF m 0 #[.val (.ref oa), .val (.int 0), .val (.int 0)] [])) (SS) := by
    rw [hSS]; exact fun t k => castTop (ef_rm_si1 m oa) k
  obtain ⟨cq1, kq1, q1a, q1b, q1c⟩ := isOf hZ e0 Es
  obtain ⟨_, _, ⟨T1, L1, k1, n1⟩, -, X1, ⟨Lc1, hQ1, l1, y1, z1⟩, st1⟩ := X0.virtualBack hx (y := yn19) (z := yn19) hown (mvT hZ (ow hw 69 rfl)) (mvT hZ (ow hw 70 rfl)) (notFace_of_selects (args := #[]) (mvT hZ (ow hw 72 rfl))) (mvT hZ (ow hw 72 rfl)) (mvT hZ (ow hw 71 rfl)) (by decide) (backOf (W := 0) (rm_lat1 l Z a0 hw [] oa vcs vf h0 n0 Z0 Os Fc) hZ (ow hw 73 rfl) (ow hw 8 rfl) (by decide) (by decide)) q1a q1c (g := (mkF m 1 #[.val (.ref oa), .val (.int 0), .val (.int 0)] [(.ref oa)])) rfl (by rw [hml]; rfl) (Steps.refl _) (argsL := []) (rest := []) (lenOf pd_10 rfl) rfl (by exact Nat.le_of_eq rfl) (hb hby d13_1) (fun _ _ => ⟨rfl, e0, (by decide : 0 + 0 ≤ _), (by decide : 0 + 0 ≤ _)⟩)
  dsimp only [Pt.U, Pt.locs, Pt.cells, Pt.slots] at X1 l1 y1 z1 st1 hQ1
  rw [l1, y1, z1] at X1
  obtain ⟨zl1, rfl, hzl1, N1q, e1⟩ := hQ1
  have N1 := Fr.app N0 N1q
  have pre2 : oP p e below (T1.setTop (mkF m 4 #[.val (.ref oa), .val (.int 0), .val (.int 0)] [(.int zl1)])) (SS) := fun t kt => by
    refine pre0 _ ?_
    refine XS.aloadN X0.here hx rfl (hb hby d13_0) rfl rfl ?_
    refine st1.trans ?_
    exact kt
  subst hzl1
  have pre3 : oP p e below (T1.setTop (mkF m 4 #[.val (.ref oa), .val (.int 0), .val (.int 0)] [(.int 0)])) (SS) := pre2
  have hc4_4 : (0 : Int) = (0 : Int) := by decide
  obtain ⟨T5, X5, e5, st5⟩ := getF X1 hx hZ hown (host := "") (Or.inl (ow hw 25 rfl)) Via.refl e1 Fv (g := (mkF m 24 #[.val (.ref oa), .val (.int 0), .val (.int 0)] [(.ref oa)])) rfl rfl (hb hby d13_24)
  obtain ⟨cq6, kq6, q6a, q6b, q6c⟩ := isOf hZ e5 Es
  obtain ⟨_, _, ⟨T6, L6, k6, n6⟩, -, X6, ⟨Lc6, hQ6, l6, y6, z6⟩, st6⟩ := X5.virtualBack hx (y := yn13) (z := yn13) hown (mvT hZ (ow hw 74 rfl)) (mvT hZ (ow hw 75 rfl)) (notFace_of_selects (args := #[]) (mvT hZ (ow hw 77 rfl))) (mvT hZ (ow hw 77 rfl)) (mvT hZ (ow hw 76 rfl)) (by decide) (backOf (W := 3) (rm_lg1 l Z a0 hw [] oa vcs vf ob kb zl vs h0 n0 Z0 Os Es Fc Fv Vb) hZ (ow hw 78 rfl) (ow hw 8 rfl) (by decide) (by decide)) q6a q6c (g := (mkF m 30 #[.val (.ref oa), .val (.int 0), .val (.int 0)] [(.ref oa), (.int 0), (.int 0), (.ref ob)])) rfl (by rw [hml]; rfl) (Steps.refl _) (argsL := []) (rest := [(.int 0), (.int 0), (.ref ob)]) (lenOf pd_11 rfl) rfl (by exact Nat.le_of_eq rfl) (hb hby d13_30) (fun _ _ => ⟨rfl, e5, (by decide : 0 + 0 ≤ _), (by decide : 0 + 0 ≤ _)⟩)
  dsimp only [Pt.U, Pt.locs, Pt.cells, Pt.slots] at X6 l6 y6 z6 st6 hQ6
  rw [l6, y6, z6] at X6
  obtain ⟨zk, rfl, hzk, N6q, e6⟩ := hQ6
  have N6 := Fr.app N1 N6q
  have pre7 : oP p e below (T6.setTop (mkF m 33 #[.val (.ref oa), .val (.int 0), .val (.int 0)] [(.int zk), (.int 0), (.int 0), (.ref ob)])) (SS) := fun t kt => by
    refine pre3 _ ?_
    refine XS.ifYes X1.here hx rfl (pc0 := 4) (pc' := 23) rfl (hb hby d13_4) rfl (own_if (own_teq (a := (0 : Int32)) (b := (0 : Int32)) (by decide) (by decide) hc4_4).1) (by decide) (by decide) ?_
    refine XS.aloadN X1.here hx rfl (hb hby d13_23) rfl rfl ?_
    refine st5 _ ?_
    refine XS.iloadN X5.here hx rfl (hb hby d13_27) rfl ?_
    refine XS.iloadN X5.here hx rfl (hb hby d13_28) rfl ?_
    refine XS.aloadN X5.here hx rfl (hb hby d13_29) rfl rfl ?_
    refine st6.trans ?_
    exact kt
  have ezk : vn = zk := Int32.toInt_inj.mp (by omega)
  subst ezk
  obtain ⟨_, _, ⟨T8, L8, k8, n8⟩, -, X8, ⟨Lc8, hQ8, l8, y8, z8⟩, st8⟩ := Jvm.LawKit.callS X6 hx (y := yn18) hown (mvT hZ (ow hw 119 rfl)) (mvT hZ (ow hw 120 rfl)) (mvT hZ (ow hw 39 rfl)) (mvT hZ (ow hw 121 rfl)) (by decide) (backOf (W := 0) (rm_ux l Z a0 hw [] ob vn vcs vf kb zl vs Pz QH h0 n0 Z0 Os Vb vz vn1 vn2 H HQ) hZ (ow hw 121 rfl) (ow hw 39 rfl) (by decide) (by decide)) (g := (mkF m 33 #[.val (.ref oa), .val (.int 0), .val (.int 0)] [(.int vn), (.int 0), (.int 0), (.ref ob)])) rfl (by rw [hml]; rfl) (argsL := [(.ref ob), (.int 0), (.int 0), (.int vn)]) (rest := []) (lenOf pd_8 rfl) rfl (by exact Nat.le_of_eq rfl) (hb hby d13_33) (fun _ _ => ⟨rfl, e6, (by decide : 0 + 0 ≤ _), (by decide : 0 + 0 ≤ _)⟩)
  dsimp only [Pt.U, Pt.locs, Pt.cells, Pt.slots] at X8 l8 y8 z8 st8 hQ8
  rw [l8, y8, z8] at X8
  obtain ⟨zi, rfl, hzi, N8q, e8⟩ := hQ8
  have N8 := Fr.app N6 N8q
  subst hSS
  obtain ⟨fs, hr, q1, q2, q3, q4⟩ := X8.leave (v := some (.int zi)) (fun h => by rw [Bd.returns] at h; cases h)
  refine ⟨_, _, pre7 _ ?_, q1, q2, _, _, rfl, ?_, ⟨_, rfl⟩, q3, q4.mono (by decide) (by decide)⟩
  · refine st8 _ ?_
    exact retI X8 hx Bd.returns (hb hby d13_36) hr
  · show Q_si1 Z _ _ _ _ _ _ _ _ _ _ h0 n0 _ T8.heap _
    rw [e8]
    exact ⟨_, rfl, hzi, N8, rfl⟩
theorem ef_rm_sx1 (m : MethodId) (x0 : Addr) : entryFrame m #[(.ref x0), (.int 0)] 2 = mkF m 0 #[.val (.ref x0), .val (.int 0)] [] := by first | (simp [entryFrame, mkF, argsToLocals, Value.category]; done) | rfl
def Q_sx1 (Z : State) (oa : Addr) (vcs : Int32) (vf : Value) (ob : Addr) (kb : ClassId) (vn : Int32) (zl : Int32) (vs : List Value) (Pz : Int32 → Prop) (QH : Option Value → Heap → List Loc → Prop) (h0 : Heap) (n0 : Nat) (v : Option Value) (h : Heap) (L : List Loc) : Prop := ∃ z : Int32, v = some (.int z) ∧ (Pz z) ∧ Fr n0 L ∧ h = h0
theorem rm_sx1 (l : Launch) (Z : State) (a0 : Array Value) (hw : ∀ d ∈ tables_1, d.before a0 Z = true) (ws : List Jvm.Cond) (oa : Addr) (vcs : Int32) (vf : Value) (ob : Addr) (kb : ClassId) (vn : Int32) (zl : Int32) (vs : List Value) (Pz : Int32 → Prop) (QH : Option Value → Heap → List Loc → Prop) (h0 : Heap) (n0 : Nat) (Z0 : n0 ≤ h0.size) (Os : own_st Z h0 vcs vf) (Es : Exa Z h0 oa "java/lang/String") (Fc : Fld Z h0 oa "java/lang/String" "coder" "B" (.int 1)) (Fv : Fld Z h0 oa "java/lang/String" "value" "[B" (.ref ob)) (Vb : Arv Z h0 ob kb .byte zl vs (.int 0)) (vz : zl.toInt = 2 * vn.toInt) (vn1 : 0 < vn.toInt) (vn2 : vn.toInt ≤ 16) (H : MetFree l yn15 (head1 (Jvm.Cond.code yn15 kc15 5 (some .int) :: []) ⟨1, 0, 0, 13⟩) (fun a U => a = #[(.ref ob), (.int 0), (.int 0), (.int vn)] ∧ Z.Warmed39 U.vm ∧ U.heap = h0) (fun _ _ _ _ _ => True) (fun _ U o U' => ∃ v L, o = .returned v ∧ QH v U'.heap L ∧ FrameEnd U o U' L 0 0)) (HQ : ∀ v h L, QH v h L → ∃ z : Int32, v = some (.int z) ∧ Pz z ∧ Fr n0 L ∧ h = h0) :
    MetFree l yn21 (head1 (Jvm.Cond.code yn21 kc21 2 (some .int) :: ws) ⟨6, 0, 0, 87⟩) (fun a U => a = #[(.ref oa), (.int 0)] ∧ Z.Warmed39 U.vm ∧ U.heap = h0) (fun _ _ _ _ _ => True) (fun _ U o U' => ∃ v L, o = .returned v ∧ Q_sx1 Z oa vcs vf ob kb vn zl vs Pz QH h0 n0 v U'.heap L ∧ FrameEnd U o U' L 0 0) := by
  refine MetFree.of_bodySF (plainFor_of_name pn_1) hisR ?_
  intro p e s m args below meth c s₁ Bd hml0 hP hK
  obtain ⟨rfl, hZ, hh⟩ := hP
  have hx := Bd.exec
  have hby := Bd.bytes
  have hml : c.maxLocals = 2 := hml0
  have hown : s.vm.findClass "java/lang/String" = some m.cls := findClass_of_methodNamed Bd.named
  have hnm := (name_of_methodNamed Bd.named Bd.method).1
  have X0 : Stand p l e ⟨6, 0, 0, 87⟩ s m #[(.ref oa), (.int 0)] below meth c s₁ [] 0 0 := Stand.of_body Bd
  have e0 : s₁.heap = h0 := by rw [← hh, Bd.state]; rfl
  have N0 := Fr.nil n0
  obtain ⟨SS, hSS⟩ : ∃ S, S = s₁.setTop (entryFrame m #[(.ref oa), (.int 0)] 2) := ⟨_, rfl⟩
  have pre0 : oP p e below (s₁.setTop (mkF m 0 #[.val (.ref oa), .val (.int 0)] [])) (SS) := by
    rw [hSS]; exact fun t k => castTop (ef_rm_sx1 m oa) k
  obtain ⟨cq1, kq1, q1a, q1b, q1c⟩ := isOf hZ e0 Es
  obtain ⟨_, _, ⟨T1, L1, k1, n1⟩, -, X1, ⟨Lc1, hQ1, l1, y1, z1⟩, st1⟩ := X0.virtualBack hx (y := yn20) (z := yn20) hown (mvT hZ (ow hw 64 rfl)) (mvT hZ (ow hw 65 rfl)) (notFace_of_selects (args := #[]) (mvT hZ (ow hw 67 rfl))) (mvT hZ (ow hw 67 rfl)) (mvT hZ (ow hw 66 rfl)) (by decide) (backOf (W := 0) (rm_si1 l Z a0 hw [] oa vcs vf ob kb vn zl vs Pz QH h0 n0 Z0 Os Es Fc Fv Vb vz vn1 vn2 H HQ) hZ (ow hw 68 rfl) (ow hw 8 rfl) (by decide) (by decide)) q1a q1c (g := (mkF m 3 #[.val (.ref oa), .val (.int 0)] [(.int 0), (.int 0), (.ref oa)])) rfl (by rw [hml]; rfl) (Steps.refl _) (argsL := [(.int 0), (.int 0)]) (rest := []) (lenOf pd_7 rfl) rfl (by exact Nat.le_of_eq rfl) (hb hby d12_3) (fun _ _ => ⟨rfl, e0, (by decide : 0 + 0 ≤ _), (by decide : 0 + 0 ≤ _)⟩)
  dsimp only [Pt.U, Pt.locs, Pt.cells, Pt.slots] at X1 l1 y1 z1 st1 hQ1
  rw [l1, y1, z1] at X1
  obtain ⟨zi, rfl, hzi, N1q, e1⟩ := hQ1
  have N1 := Fr.app N0 N1q
  subst hSS
  obtain ⟨fs, hr, q1, q2, q3, q4⟩ := X1.leave (v := some (.int zi)) (fun h => by rw [Bd.returns] at h; cases h)
  refine ⟨_, _, pre0 _ ?_, q1, q2, _, _, rfl, ?_, ⟨_, rfl⟩, q3, q4.mono (by decide) (by decide)⟩
  · refine XS.aloadN X0.here hx rfl (hb hby d12_0) rfl rfl ?_
    refine XS.iloadN X0.here hx rfl (hb hby d12_1) rfl ?_
    refine XS.iconst X0.here hx rfl (hb hby d12_2) ?_
    refine st1.trans ?_
    exact retI X1 hx Bd.returns (hb hby d12_6) hr
  · show Q_sx1 Z _ _ _ _ _ _ _ _ _ _ h0 n0 _ T1.heap _
    rw [e1]
    exact ⟨_, rfl, hzi, N1, rfl⟩
def own_s1 (Z : State) (h : Heap) (oa ob : Addr) (kb : ClassId) (c0 : Int32) : Prop := Exa Z h oa "java/lang/String" ∧ Fld Z h oa "java/lang/String" "value" "[B" (.ref ob) ∧ ((Fld Z h oa "java/lang/String" "coder" "B" (.int 0) ∧ ((c0.toInt ≤ 255) ∧ ∃ bb0 : Int32, Arv Z h ob kb .byte (1 : Int32) [(.int bb0)] (.int 0) ∧ bb0.toInt % 256 = c0.toInt)) ∨ (Fld Z h oa "java/lang/String" "coder" "B" (.int 1) ∧ (¬ (c0.toInt ≤ 255) ∧ ∃ lo0 hi0 : Int32, Arv Z h ob kb .byte (2 : Int32) [(.int lo0), (.int hi0)] (.int 0) ∧ lo0.toInt % 256 = c0.toInt % 256 ∧ hi0.toInt % 256 = c0.toInt / 256)))
theorem d5_0 : decode kc22 0 = .ok (.aload_n 0, 1) := by decide +kernel
theorem d5_1 : decode kc22 1 = .ok (.invokevirtual 71, 3) := by decide +kernel
theorem d5_4 : decode kc22 4 = .ok (.ifCond .ne 33, 3) := by decide +kernel
theorem d5_7 : decode kc22 7 = .ok (.aload_n 0, 1) := by decide +kernel
theorem d5_8 : decode kc22 8 = .ok (.ldc 75, 2) := by decide +kernel
theorem d5_10 : decode kc22 10 = .ok (.invokevirtual 77, 3) := by decide +kernel
theorem d5_13 : decode kc22 13 = .ok (.ifCond .ne 24, 3) := by decide +kernel
theorem d5_16 : decode kc22 16 = .ok (.aload_n 0, 1) := by decide +kernel
theorem d5_17 : decode kc22 17 = .ok (.ldc 81, 2) := by decide +kernel
theorem d5_19 : decode kc22 19 = .ok (.invokevirtual 77, 3) := by decide +kernel
theorem d5_22 : decode kc22 22 = .ok (.ifCond .ne 15, 3) := by decide +kernel
theorem d5_25 : decode kc22 25 = .ok (.aload_n 0, 1) := by decide +kernel
theorem d5_26 : decode kc22 26 = .ok (.iconst 0, 1) := by decide +kernel
theorem d5_27 : decode kc22 27 = .ok (.invokevirtual 83, 3) := by decide +kernel
theorem d5_30 : decode kc22 30 = .ok (.ifCond .ge 7, 3) := by decide +kernel
theorem d5_33 : decode kc22 33 = .ok (.iconst 1, 1) := by decide +kernel
theorem d5_34 : decode kc22 34 = .ok (.goto 4, 3) := by decide +kernel
theorem d5_37 : decode kc22 37 = .ok (.iconst 0, 1) := by decide +kernel
theorem d5_38 : decode kc22 38 = .ok (.ireturn, 1) := by decide +kernel
theorem pn_5 : plainName "com/example/attestbridge/attestbridge/sync/AclPolicy" = true := by first | (simp [plainName, overriddenIn]; done) | decide +kernel
theorem ef_rm_nm1 (m : MethodId) (x0 : Addr) : entryFrame m #[(.ref x0)] 1 = mkF m 0 #[.val (.ref x0)] [] := by first | (simp [entryFrame, mkF, argsToLocals, Value.category]; done) | rfl
theorem pd_12 : parseMethodDescriptor "(Ljava/lang/Object;)Z" = some ⟨[(.object "java/lang/Object")], some .boolean⟩ := by decide +kernel
theorem pd_13 : parseMethodDescriptor "(I)I" = some ⟨[.int], some .int⟩ := by decide +kernel
def Q_nm1 (Z : State) (oa : Addr) (vcs : Int32) (vf : Value) (ob : Addr) (kb : ClassId) (c0 : Int32) (h0 : Heap) (n0 : Nat) (v : Option Value) (h : Heap) (L : List Loc) : Prop := ∃ z : Int32, v = some (.int z) ∧ ((z.toInt = 1 ∧ ¬ c0.toInt = 46 ∧ ¬ (c0.toInt = 0)) ∨ (z.toInt = 0 ∧ ¬ (¬ c0.toInt = 46 ∧ ¬ (c0.toInt = 0)))) ∧ Fr n0 L ∧ Keep h0 h []
theorem rm_nm1 (l : Launch) (Z : State) (a0 : Array Value) (hw : ∀ d ∈ tables_1, d.before a0 Z = true) (ws : List Jvm.Cond) (oa : Addr) (vcs : Int32) (vf : Value) (ob : Addr) (kb : ClassId) (c0 : Int32) (h0 : Heap) (n0 : Nat) (Z0 : n0 ≤ h0.size) (Os : own_st Z h0 vcs vf) (Sx : own_s1 Z h0 oa ob kb c0) (uc0 : 0 ≤ c0.toInt) (vc0 : c0.toInt < 65536) :
    MetFree l yn22 (head1 (Jvm.Cond.code yn22 kc22 1 (some .boolean) :: ws) ⟨7, 4, 20, 100⟩) (fun a U => a = #[(.ref oa)] ∧ Z.Warmed39 U.vm ∧ U.heap = h0 ∧ CHv Z own_EL U.vm h0) (fun _ _ _ _ _ => True) (fun _ U o U' => ∃ v L, o = .returned v ∧ Q_nm1 Z oa vcs vf ob kb c0 h0 n0 v U'.heap L ∧ CHr Z own_EL U.vm U.heap U'.vm U'.heap ∧ ReturnedEndW U o U' L 4 20) := by
  refine MetFree.of_bodySF (plainFor_of_name pn_5) hisR ?_
  intro p e s m args below meth c s₁ Bd hml0 hP hK
  obtain ⟨rfl, hZ, hh, hC⟩ := hP
  have hx := Bd.exec
  have hby := Bd.bytes
  have hml : c.maxLocals = 1 := hml0
  have hown : s.vm.findClass "com/example/attestbridge/attestbridge/sync/AclPolicy" = some m.cls := findClass_of_methodNamed Bd.named
  have hnm := (name_of_methodNamed Bd.named Bd.method).1
  have X0 : Stand p l e ⟨7, 4, 20, 100⟩ (s.setVm s.vm) m #[(.ref oa)] below meth c s₁ [] 0 0 := Stand.of_body Bd
  have e0 : s₁.heap = h0 := by rw [← hh, Bd.state]; rfl
  have N0 := Fr.nil n0
  have hEL := own_EW hw
  have wS := own_wS hw
  have CR0 : CHr Z own_EL s.vm h0 s.vm h0 := CHr.refl hC
  have hS0 : s.Since s.vm h0.size := (State.WarmedH.refl s).since _
  have hk0 : h0.size ≤ h0.size := Nat.le_refl _
  obtain ⟨SS, hSS⟩ : ∃ S, S = s₁.setTop (entryFrame m #[(.ref oa)] 1) := ⟨_, rfl⟩
  have pre0 : oP p e below (s₁.setTop (mkF m 0 #[.val (.ref oa)] [])) (SS) := by
    rw [hSS]; exact fun t k => castTop (ef_rm_nm1 m oa) k
  obtain ⟨Es, Fv, hO⟩ := id Sx
  rcases hO with ⟨Fc, hall, bb0, Vb, qbb0⟩ | ⟨Fc, hall, lo0, hi0, Vb, qlo0, qhi0⟩
  · have own_m0 := True.intro
    have hy0 := own_byte Vb 0 (by decide) rfl
    have pre1 : oP p e below (s₁.setTop (mkF m 1 #[.val (.ref oa)] [(.ref oa)])) (SS) := fun t kt => by
      refine pre0 _ ?_
      refine XS.aloadN X0.here hx rfl (hb hby d5_0) rfl rfl ?_
      exact kt
    obtain ⟨cq2, kq2, q2a, q2b, q2c⟩ := isOf hZ e0 Es
    obtain ⟨_, _, ⟨T2, L2, k2, n2⟩, -, X2, ⟨Lc2, hQ2, l2, y2, z2⟩, st2⟩ := X0.virtualBack hx (y := yn1) (z := yn1) hown (mvT hZ (ow hw 31 rfl)) (mvT hZ (ow hw 32 rfl)) (notFace_of_selects (args := #[]) (mvT hZ (ow hw 34 rfl))) (mvT hZ (ow hw 34 rfl)) (mvT hZ (ow hw 33 rfl)) (by decide) (backOf (W := 0) (rm_emp l Z a0 hw [] oa ob kb (1 : Int32) [(.int bb0)] h0 n0 Z0 Fv Vb) hZ (ow hw 35 rfl) (ow hw 8 rfl) (by decide) (by decide)) q2a q2c (g := (mkF m 1 #[.val (.ref oa)] [(.ref oa)])) rfl (by rw [hml]; rfl) (Steps.refl _) (argsL := []) (rest := []) (lenOf pd_10 rfl) rfl (by exact Nat.le_of_eq rfl) (hb hby d5_1) (fun _ _ => ⟨rfl, e0, (by decide : 0 + 0 ≤ _), (by decide : 0 + 0 ≤ _)⟩)
    dsimp only [Pt.U, Pt.locs, Pt.cells, Pt.slots] at X2 l2 y2 z2 st2 hQ2
    rw [l2, y2, z2] at X2
    obtain ⟨ze, rfl, hze, N2q, e2⟩ := hQ2
    have N2 := Fr.app N0 N2q
    have pre3 : oP p e below (T2.setTop (mkF m 4 #[.val (.ref oa)] [(.int ze)])) (SS) := fun t kt => by
      refine pre1 _ ?_
      refine st2.trans ?_
      exact kt
    have eze : ze = (0 : Int32) := by
      rcases hze with ⟨_, q⟩ | ⟨q, _⟩
      · exact absurd q (by decide)
      · exact q
    subst eze
    have pre4 : oP p e below (T2.setTop (mkF m 4 #[.val (.ref oa)] [(.int 0)])) (SS) := pre3
    have hc4_5 : (0 : Int) = (0 : Int) := by decide
    have pre6 : oP p e below (T2.setTop (mkF m 8 #[.val (.ref oa)] [(.ref oa)])) (SS) := fun t kt => by
      refine pre4 _ ?_
      refine XS.ifNo X2.here hx rfl (hb hby d5_4) rfl (own_if (own_teq (a := (0 : Int32)) (b := (0 : Int32)) (by decide) (by decide) hc4_5).2) ?_
      refine XS.aloadN X2.here hx rfl (hb hby d5_7) rfl rfl ?_
      exact kt
    obtain ⟨la7, T7, h7, k17, lb7, kb7, X7, e7, E7, hS7, hk7, hZ, hown, A7, Fc7, Fv7, V7, lt7, lu7, CRn7, Lt7, Sf7, st7⟩ := ldcCH X2 hx hZ hown (text := ".") (ow hw 47 rfl) wS e2 hS0 hk0 hEL (List.mem_of_getElem? (i := 0) rfl) CR0.1 (vs := [(.int 46)]) (z := (1 : Int32)) ⟨by decide, by rfl⟩ (by decide) rfl (g := (mkF m 8 #[.val (.ref oa)] [(.ref oa)])) rfl (hb hby d5_8) (n := 4) (by decide) (by decide) (by decide) (by decide)
    have CR8 := CR0.trans CRn7
    have Zs9 : n0 ≤ h7.size := Nat.le_trans Z0 E7.1
    have pre10 : oP p e below (T7.setTop (mkF m 10 #[.val (.ref oa)] [(.ref la7), (.ref oa)])) (SS) := fun t kt => by
      refine pre6 _ ?_
      refine st7 _ ?_
      exact kt
    have os11 := (own_st_ext Os E7)
    have f12 := (Es.ext E7)
    have f13 := (Fc.ext E7)
    have f14 := (Fv.ext E7)
    have f15 := (Vb.ext E7)
    obtain ⟨cq16, kq16, q16a, q16b, q16c⟩ := isOf hZ e7 f12
    obtain ⟨_, _, ⟨T16, L16, k16, n16⟩, -, X16, ⟨Lc16, hQ16, l16, y16, z16⟩, st16⟩ := X7.virtualBack hx (y := yn3) (z := yn3) hown (mvT hZ (ow hw 48 rfl)) (mvT hZ (ow hw 49 rfl)) (notFace_of_selects (args := #[]) (mvT hZ (ow hw 51 rfl))) (mvT hZ (ow hw 51 rfl)) (mvT hZ (ow hw 50 rfl)) (by decide) (backOf (W := 0) (rm_eqE1 l Z a0 hw [] oa la7 vcs vf ob kb lb7 kb7 bb0 h7 n0 Zs9 os11 f12 f13 f14 f15 A7 Fc7 Fv7 V7) hZ (ow hw 52 rfl) (ow hw 8 rfl) (by decide) (by decide)) q16a q16c (g := (mkF m 10 #[.val (.ref oa)] [(.ref la7), (.ref oa)])) rfl (by rw [hml]; rfl) (Steps.refl _) (argsL := [(.ref la7)]) (rest := []) (lenOf pd_12 rfl) rfl (by exact Nat.le_of_eq rfl) (hb hby d5_10) (fun _ _ => ⟨rfl, e7, (by decide : 2 + 0 ≤ _), (by decide : 8 + 0 ≤ _)⟩)
    dsimp only [Pt.U, Pt.locs, Pt.cells, Pt.slots] at X16 l16 y16 z16 st16 hQ16
    rw [l16, y16, z16] at X16
    obtain ⟨zd, rfl, hzd, N16q, e16⟩ := hQ16
    have N16 := Fr.app N2 N16q
    have pre17 : oP p e below (T16.setTop (mkF m 13 #[.val (.ref oa)] [(.int zd)])) (SS) := fun t kt => by
      refine pre10 _ ?_
      refine st16.trans ?_
      exact kt
    rcases hzd with ⟨rfl, hd1⟩ | ⟨rfl, hd1⟩
    · have pre18 : oP p e below (T16.setTop (mkF m 13 #[.val (.ref oa)] [(.int 1)])) (SS) := pre17
      have hc13_19 : ¬ ((1 : Int) = (0 : Int)) := by decide
      subst hSS
      obtain ⟨fs, hr, hrun, hended, hREW⟩ := X16.leaveW hS7 (by rw [e16]; exact hk7) (v := some (.int 0)) (fun h => by rw [Bd.returns] at h; cases h)
      refine ⟨_, _, pre18 _ ?_, hrun, hended, _, _, rfl, ?_, ?_, ⟨hREW.1, hREW.2.1, hREW.2.2.1, hREW.2.2.2.mono (by decide) (by decide)⟩⟩
      · refine XS.ifYes X16.here hx rfl (pc0 := 13) (pc' := 37) rfl (hb hby d5_13) rfl (own_if (own_feq (a := (1 : Int32)) (b := (0 : Int32)) (by decide) (by decide) hc13_19).2) (by decide) (by decide) ?_
        refine XS.iconst X16.here hx rfl (hb hby d5_37) ?_
        exact retN X16 hx (t := .boolean) Bd.returns (by simp) (hb hby d5_38) hr
      · show Q_nm1 Z _ _ _ _ _ _ h0 n0 _ T16.heap _
        rw [e16]
        have f20 := ((Keep.refl h0 []).ext E7)
        exact ⟨_, rfl, by have iv : ((0 : Int32)).toInt = (0 : Int) := (by decide); omega, N16, f20⟩
      · show CHr Z own_EL s.vm s.heap T16.vm T16.heap
        rw [hh, e16]
        exact CR8.trans (CHv.at X16 hZ hEL CR8.1)
    · have pre21 : oP p e below (T16.setTop (mkF m 13 #[.val (.ref oa)] [(.int 0)])) (SS) := pre17
      have hc13_22 : (0 : Int) = (0 : Int) := by decide
      have pre23 : oP p e below (T16.setTop (mkF m 17 #[.val (.ref oa)] [(.ref oa)])) (SS) := fun t kt => by
        refine pre21 _ ?_
        refine XS.ifNo X16.here hx rfl (hb hby d5_13) rfl (own_if (own_teq (a := (0 : Int32)) (b := (0 : Int32)) (by decide) (by decide) hc13_22).2) ?_
        refine XS.aloadN X16.here hx rfl (hb hby d5_16) rfl rfl ?_
        exact kt
      obtain ⟨la24, T24, h24, k124, lb24, kb24, X24, e24, E24, hS24, hk24, hZ, hown, A24, Fc24, Fv24, V24, lt24, lu24, CRn24, Lt24, Sf24, st24⟩ := ldcCH X16 hx hZ hown (text := "..") (ow hw 58 rfl) wS e16 hS7 hk7 hEL (List.mem_of_getElem? (i := 1) rfl) CR8.1 (vs := [(.int 46), (.int 46)]) (z := (2 : Int32)) ⟨by decide, by rfl⟩ (by decide) rfl (g := (mkF m 17 #[.val (.ref oa)] [(.ref oa)])) rfl (hb hby d5_17) (n := 8) (by decide) (by decide) (by decide) (by decide)
      have CR25 := CR8.trans CRn24
      have Zs26 : n0 ≤ h24.size := Nat.le_trans Zs9 E24.1
      have pre27 : oP p e below (T24.setTop (mkF m 19 #[.val (.ref oa)] [(.ref la24), (.ref oa)])) (SS) := fun t kt => by
        refine pre23 _ ?_
        refine st24 _ ?_
        exact kt
      have os28 := (own_st_ext os11 E24)
      have f29 := (f12.ext E24)
      have f30 := (f13.ext E24)
      have f31 := (f14.ext E24)
      have f32 := (f15.ext E24)
      obtain ⟨cq33, kq33, q33a, q33b, q33c⟩ := isOf hZ e24 f29
      obtain ⟨_, _, ⟨T33, L33, k33, n33⟩, -, X33, ⟨Lc33, hQ33, l33, y33, z33⟩, st33⟩ := X24.virtualBack hx (y := yn3) (z := yn3) hown (mvT hZ (ow hw 48 rfl)) (mvT hZ (ow hw 49 rfl)) (notFace_of_selects (args := #[]) (mvT hZ (ow hw 51 rfl))) (mvT hZ (ow hw 51 rfl)) (mvT hZ (ow hw 50 rfl)) (by decide) (backOf (W := 0) (rm_eqN l Z a0 hw [] oa la24 vcs vf ob kb lb24 kb24 (1 : Int32) [(.int bb0)] (2 : Int32) [(.int 46), (.int 46)] h24 n0 Zs26 os28 f29 f30 f31 f32 A24 Fc24 Fv24 V24 (by decide) (own_ne_len f31 Fv24 f32 V24 (by decide))) hZ (ow hw 52 rfl) (ow hw 8 rfl) (by decide) (by decide)) q33a q33c (g := (mkF m 19 #[.val (.ref oa)] [(.ref la24), (.ref oa)])) rfl (by rw [hml]; rfl) (Steps.refl _) (argsL := [(.ref la24)]) (rest := []) (lenOf pd_12 rfl) rfl (by exact Nat.le_of_eq rfl) (hb hby d5_19) (fun _ _ => ⟨rfl, e24, (by decide : 4 + 0 ≤ _), (by decide : 20 + 0 ≤ _)⟩)
      dsimp only [Pt.U, Pt.locs, Pt.cells, Pt.slots] at X33 l33 y33 z33 st33 hQ33
      rw [l33, y33, z33] at X33
      obtain ⟨zdd, rfl, hzdd, N33q, e33⟩ := hQ33
      have N33 := Fr.app N16 N33q
      have pre34 : oP p e below (T33.setTop (mkF m 22 #[.val (.ref oa)] [(.int zdd)])) (SS) := fun t kt => by
        refine pre27 _ ?_
        refine st33.trans ?_
        exact kt
      subst hzdd
      have pre35 : oP p e below (T33.setTop (mkF m 22 #[.val (.ref oa)] [(.int 0)])) (SS) := pre34
      have hc22_36 : (0 : Int) = (0 : Int) := by decide
      have pre37 : oP p e below (T33.setTop (mkF m 27 #[.val (.ref oa)] [(.int 0), (.ref oa)])) (SS) := fun t kt => by
        refine pre35 _ ?_
        refine XS.ifNo X33.here hx rfl (hb hby d5_22) rfl (own_if (own_teq (a := (0 : Int32)) (b := (0 : Int32)) (by decide) (by decide) hc22_36).2) ?_
        refine XS.aloadN X33.here hx rfl (hb hby d5_25) rfl rfl ?_
        refine XS.iconst X33.here hx rfl (hb hby d5_26) ?_
        exact kt
      have HH38 := rm_ioc1 l Z a0 hw [] ob vcs vf kb bb0 h24 n0 Zs26 os28 f32
      obtain ⟨cq39, kq39, q39a, q39b, q39c⟩ := isOf hZ e33 f29
      obtain ⟨_, _, ⟨T39, L39, k39, n39⟩, -, X39, ⟨Lc39, hQ39, l39, y39, z39⟩, st39⟩ := X33.virtualBack hx (y := yn21) (z := yn21) hown (mvT hZ (ow hw 59 rfl)) (mvT hZ (ow hw 60 rfl)) (notFace_of_selects (args := #[]) (mvT hZ (ow hw 62 rfl))) (mvT hZ (ow hw 62 rfl)) (mvT hZ (ow hw 61 rfl)) (by decide) (backOf (W := 0) (rm_sx0 l Z a0 hw [] oa vcs vf ob kb (1 : Int32) (1 : Int32) [(.int bb0)] (fun z => (0 ≤ z.toInt ∧ (bb0.toInt = 0)) ∨ (z.toInt < 0 ∧ ¬ (bb0.toInt = 0))) (Q_ioc1 Z ob vcs vf kb bb0 h24 n0) h24 n0 Zs26 os28 f29 f30 f31 f32 (by decide) (by decide) (by decide) HH38 (fun _ _ _ q => q)) hZ (ow hw 63 rfl) (ow hw 8 rfl) (by decide) (by decide)) q39a q39c (g := (mkF m 27 #[.val (.ref oa)] [(.int 0), (.ref oa)])) rfl (by rw [hml]; rfl) (Steps.refl _) (argsL := [(.int 0)]) (rest := []) (lenOf pd_13 rfl) rfl (by exact Nat.le_of_eq rfl) (hb hby d5_27) (fun _ _ => ⟨rfl, e33, (by decide : 4 + 0 ≤ _), (by decide : 20 + 0 ≤ _)⟩)
      dsimp only [Pt.U, Pt.locs, Pt.cells, Pt.slots] at X39 l39 y39 z39 st39 hQ39
      rw [l39, y39, z39] at X39
      obtain ⟨zi, rfl, hzi, N39q, e39⟩ := hQ39
      have N39 := Fr.app N33 N39q
      have pre41 : oP p e below (T39.setTop (mkF m 30 #[.val (.ref oa)] [(.int zi)])) (SS) := fun t kt => by
        refine pre37 _ ?_
        refine st39.trans ?_
        exact kt
      by_cases hc30_40 : zi.toInt < (0 : Int)
      · subst hSS
        obtain ⟨fs, hr, hrun, hended, hREW⟩ := X39.leaveW hS24 (by rw [e39]; exact hk24) (v := some (.int 1)) (fun h => by rw [Bd.returns] at h; cases h)
        refine ⟨_, _, pre41 _ ?_, hrun, hended, _, _, rfl, ?_, ?_, ⟨hREW.1, hREW.2.1, hREW.2.2.1, hREW.2.2.2.mono (by decide) (by decide)⟩⟩
        · refine XS.ifNo X39.here hx rfl (hb hby d5_30) rfl (own_if (own_tlt (a := zi) (b := (0 : Int32)) rfl (by decide) hc30_40).2.1) ?_
          refine XS.iconst X39.here hx rfl (hb hby d5_33) ?_
          refine XS.goto X39.here hx rfl (pc0 := 34) (pc' := 38) rfl (hb hby d5_34) (by decide) (by decide) ?_
          exact retN X39 hx (t := .boolean) Bd.returns (by simp) (hb hby d5_38) hr
        · show Q_nm1 Z _ _ _ _ _ _ h0 n0 _ T39.heap _
          rw [e39]
          have f42 := (((Keep.refl h0 []).ext E7).ext E24)
          exact ⟨_, rfl, by have iv : ((1 : Int32)).toInt = (1 : Int) := (by decide); omega, N39, f42⟩
        · show CHr Z own_EL s.vm s.heap T39.vm T39.heap
          rw [hh, e39]
          exact CR25.trans (CHv.at X39 hZ hEL CR25.1)
      · subst hSS
        obtain ⟨fs, hr, hrun, hended, hREW⟩ := X39.leaveW hS24 (by rw [e39]; exact hk24) (v := some (.int 0)) (fun h => by rw [Bd.returns] at h; cases h)
        refine ⟨_, _, pre41 _ ?_, hrun, hended, _, _, rfl, ?_, ?_, ⟨hREW.1, hREW.2.1, hREW.2.2.1, hREW.2.2.2.mono (by decide) (by decide)⟩⟩
        · refine XS.ifYes X39.here hx rfl (pc0 := 30) (pc' := 37) rfl (hb hby d5_30) rfl (own_if (own_flt (a := zi) (b := (0 : Int32)) rfl (by decide) hc30_40).2.1) (by decide) (by decide) ?_
          refine XS.iconst X39.here hx rfl (hb hby d5_37) ?_
          exact retN X39 hx (t := .boolean) Bd.returns (by simp) (hb hby d5_38) hr
        · show Q_nm1 Z _ _ _ _ _ _ h0 n0 _ T39.heap _
          rw [e39]
          have f43 := (((Keep.refl h0 []).ext E7).ext E24)
          exact ⟨_, rfl, by have iv : ((0 : Int32)).toInt = (0 : Int) := (by decide); omega, N39, f43⟩
        · show CHr Z own_EL s.vm s.heap T39.vm T39.heap
          rw [hh, e39]
          exact CR25.trans (CHv.at X39 hZ hEL CR25.1)
  · have own_m1 := True.intro
    have pre44 : oP p e below (s₁.setTop (mkF m 1 #[.val (.ref oa)] [(.ref oa)])) (SS) := fun t kt => by
      refine pre0 _ ?_
      refine XS.aloadN X0.here hx rfl (hb hby d5_0) rfl rfl ?_
      exact kt
    obtain ⟨cq45, kq45, q45a, q45b, q45c⟩ := isOf hZ e0 Es
    obtain ⟨_, _, ⟨T45, L45, k45, n45⟩, -, X45, ⟨Lc45, hQ45, l45, y45, z45⟩, st45⟩ := X0.virtualBack hx (y := yn1) (z := yn1) hown (mvT hZ (ow hw 31 rfl)) (mvT hZ (ow hw 32 rfl)) (notFace_of_selects (args := #[]) (mvT hZ (ow hw 34 rfl))) (mvT hZ (ow hw 34 rfl)) (mvT hZ (ow hw 33 rfl)) (by decide) (backOf (W := 0) (rm_emp l Z a0 hw [] oa ob kb (2 : Int32) [(.int lo0), (.int hi0)] h0 n0 Z0 Fv Vb) hZ (ow hw 35 rfl) (ow hw 8 rfl) (by decide) (by decide)) q45a q45c (g := (mkF m 1 #[.val (.ref oa)] [(.ref oa)])) rfl (by rw [hml]; rfl) (Steps.refl _) (argsL := []) (rest := []) (lenOf pd_10 rfl) rfl (by exact Nat.le_of_eq rfl) (hb hby d5_1) (fun _ _ => ⟨rfl, e0, (by decide : 0 + 0 ≤ _), (by decide : 0 + 0 ≤ _)⟩)
    dsimp only [Pt.U, Pt.locs, Pt.cells, Pt.slots] at X45 l45 y45 z45 st45 hQ45
    rw [l45, y45, z45] at X45
    obtain ⟨ze, rfl, hze, N45q, e45⟩ := hQ45
    have N45 := Fr.app N0 N45q
    have pre46 : oP p e below (T45.setTop (mkF m 4 #[.val (.ref oa)] [(.int ze)])) (SS) := fun t kt => by
      refine pre44 _ ?_
      refine st45.trans ?_
      exact kt
    have eze : ze = (0 : Int32) := by
      rcases hze with ⟨_, q⟩ | ⟨q, _⟩
      · exact absurd q (by decide)
      · exact q
    subst eze
    have pre47 : oP p e below (T45.setTop (mkF m 4 #[.val (.ref oa)] [(.int 0)])) (SS) := pre46
    have hc4_48 : (0 : Int) = (0 : Int) := by decide
    have pre49 : oP p e below (T45.setTop (mkF m 8 #[.val (.ref oa)] [(.ref oa)])) (SS) := fun t kt => by
      refine pre47 _ ?_
      refine XS.ifNo X45.here hx rfl (hb hby d5_4) rfl (own_if (own_teq (a := (0 : Int32)) (b := (0 : Int32)) (by decide) (by decide) hc4_48).2) ?_
      refine XS.aloadN X45.here hx rfl (hb hby d5_7) rfl rfl ?_
      exact kt
    obtain ⟨la50, T50, h50, k150, lb50, kb50, X50, e50, E50, hS50, hk50, hZ, hown, A50, Fc50, Fv50, V50, lt50, lu50, CRn50, Lt50, Sf50, st50⟩ := ldcCH X45 hx hZ hown (text := ".") (ow hw 47 rfl) wS e45 hS0 hk0 hEL (List.mem_of_getElem? (i := 0) rfl) CR0.1 (vs := [(.int 46)]) (z := (1 : Int32)) ⟨by decide, by rfl⟩ (by decide) rfl (g := (mkF m 8 #[.val (.ref oa)] [(.ref oa)])) rfl (hb hby d5_8) (n := 4) (by decide) (by decide) (by decide) (by decide)
    have CR51 := CR0.trans CRn50
    have Zs52 : n0 ≤ h50.size := Nat.le_trans Z0 E50.1
    have pre53 : oP p e below (T50.setTop (mkF m 10 #[.val (.ref oa)] [(.ref la50), (.ref oa)])) (SS) := fun t kt => by
      refine pre49 _ ?_
      refine st50 _ ?_
      exact kt
    have os54 := (own_st_ext Os E50)
    have f55 := (Es.ext E50)
    have f56 := (Fc.ext E50)
    have f57 := (Fv.ext E50)
    have f58 := (Vb.ext E50)
    obtain ⟨cq59, kq59, q59a, q59b, q59c⟩ := isOf hZ e50 f55
    obtain ⟨_, _, ⟨T59, L59, k59, n59⟩, -, X59, ⟨Lc59, hQ59, l59, y59, z59⟩, st59⟩ := X50.virtualBack hx (y := yn3) (z := yn3) hown (mvT hZ (ow hw 48 rfl)) (mvT hZ (ow hw 49 rfl)) (notFace_of_selects (args := #[]) (mvT hZ (ow hw 51 rfl))) (mvT hZ (ow hw 51 rfl)) (mvT hZ (ow hw 50 rfl)) (by decide) (backOf (W := 0) (rm_eqU l Z a0 hw [] oa la50 vcs vf ob kb lb50 kb50 (2 : Int32) [(.int lo0), (.int hi0)] (1 : Int32) [(.int 46)] h50 n0 Zs52 os54 f55 f56 f57 f58 A50 Fc50 Fv50 V50 (own_ne_cod f56 Fc50)) hZ (ow hw 52 rfl) (ow hw 8 rfl) (by decide) (by decide)) q59a q59c (g := (mkF m 10 #[.val (.ref oa)] [(.ref la50), (.ref oa)])) rfl (by rw [hml]; rfl) (Steps.refl _) (argsL := [(.ref la50)]) (rest := []) (lenOf pd_12 rfl) rfl (by exact Nat.le_of_eq rfl) (hb hby d5_10) (fun _ _ => ⟨rfl, e50, (by decide : 2 + 0 ≤ _), (by decide : 8 + 0 ≤ _)⟩)
    dsimp only [Pt.U, Pt.locs, Pt.cells, Pt.slots] at X59 l59 y59 z59 st59 hQ59
    rw [l59, y59, z59] at X59
    obtain ⟨zd, rfl, hzd, N59q, e59⟩ := hQ59
    have N59 := Fr.app N45 N59q
    have pre60 : oP p e below (T59.setTop (mkF m 13 #[.val (.ref oa)] [(.int zd)])) (SS) := fun t kt => by
      refine pre53 _ ?_
      refine st59.trans ?_
      exact kt
    subst hzd
    have pre61 : oP p e below (T59.setTop (mkF m 13 #[.val (.ref oa)] [(.int 0)])) (SS) := pre60
    have hc13_62 : (0 : Int) = (0 : Int) := by decide
    have pre63 : oP p e below (T59.setTop (mkF m 17 #[.val (.ref oa)] [(.ref oa)])) (SS) := fun t kt => by
      refine pre61 _ ?_
      refine XS.ifNo X59.here hx rfl (hb hby d5_13) rfl (own_if (own_teq (a := (0 : Int32)) (b := (0 : Int32)) (by decide) (by decide) hc13_62).2) ?_
      refine XS.aloadN X59.here hx rfl (hb hby d5_16) rfl rfl ?_
      exact kt
    obtain ⟨la64, T64, h64, k164, lb64, kb64, X64, e64, E64, hS64, hk64, hZ, hown, A64, Fc64, Fv64, V64, lt64, lu64, CRn64, Lt64, Sf64, st64⟩ := ldcCH X59 hx hZ hown (text := "..") (ow hw 58 rfl) wS e59 hS50 hk50 hEL (List.mem_of_getElem? (i := 1) rfl) CR51.1 (vs := [(.int 46), (.int 46)]) (z := (2 : Int32)) ⟨by decide, by rfl⟩ (by decide) rfl (g := (mkF m 17 #[.val (.ref oa)] [(.ref oa)])) rfl (hb hby d5_17) (n := 8) (by decide) (by decide) (by decide) (by decide)
    have CR65 := CR51.trans CRn64
    have Zs66 : n0 ≤ h64.size := Nat.le_trans Zs52 E64.1
    have pre67 : oP p e below (T64.setTop (mkF m 19 #[.val (.ref oa)] [(.ref la64), (.ref oa)])) (SS) := fun t kt => by
      refine pre63 _ ?_
      refine st64 _ ?_
      exact kt
    have os68 := (own_st_ext os54 E64)
    have f69 := (f55.ext E64)
    have f70 := (f56.ext E64)
    have f71 := (f57.ext E64)
    have f72 := (f58.ext E64)
    obtain ⟨cq73, kq73, q73a, q73b, q73c⟩ := isOf hZ e64 f69
    obtain ⟨_, _, ⟨T73, L73, k73, n73⟩, -, X73, ⟨Lc73, hQ73, l73, y73, z73⟩, st73⟩ := X64.virtualBack hx (y := yn3) (z := yn3) hown (mvT hZ (ow hw 48 rfl)) (mvT hZ (ow hw 49 rfl)) (notFace_of_selects (args := #[]) (mvT hZ (ow hw 51 rfl))) (mvT hZ (ow hw 51 rfl)) (mvT hZ (ow hw 50 rfl)) (by decide) (backOf (W := 0) (rm_eqU l Z a0 hw [] oa la64 vcs vf ob kb lb64 kb64 (2 : Int32) [(.int lo0), (.int hi0)] (2 : Int32) [(.int 46), (.int 46)] h64 n0 Zs66 os68 f69 f70 f71 f72 A64 Fc64 Fv64 V64 (own_ne_cod f70 Fc64)) hZ (ow hw 52 rfl) (ow hw 8 rfl) (by decide) (by decide)) q73a q73c (g := (mkF m 19 #[.val (.ref oa)] [(.ref la64), (.ref oa)])) rfl (by rw [hml]; rfl) (Steps.refl _) (argsL := [(.ref la64)]) (rest := []) (lenOf pd_12 rfl) rfl (by exact Nat.le_of_eq rfl) (hb hby d5_19) (fun _ _ => ⟨rfl, e64, (by decide : 4 + 0 ≤ _), (by decide : 20 + 0 ≤ _)⟩)
    dsimp only [Pt.U, Pt.locs, Pt.cells, Pt.slots] at X73 l73 y73 z73 st73 hQ73
    rw [l73, y73, z73] at X73
    obtain ⟨zdd, rfl, hzdd, N73q, e73⟩ := hQ73
    have N73 := Fr.app N59 N73q
    have pre74 : oP p e below (T73.setTop (mkF m 22 #[.val (.ref oa)] [(.int zdd)])) (SS) := fun t kt => by
      refine pre67 _ ?_
      refine st73.trans ?_
      exact kt
    subst hzdd
    have pre75 : oP p e below (T73.setTop (mkF m 22 #[.val (.ref oa)] [(.int 0)])) (SS) := pre74
    have hc22_76 : (0 : Int) = (0 : Int) := by decide
    have pre77 : oP p e below (T73.setTop (mkF m 27 #[.val (.ref oa)] [(.int 0), (.ref oa)])) (SS) := fun t kt => by
      refine pre75 _ ?_
      refine XS.ifNo X73.here hx rfl (hb hby d5_22) rfl (own_if (own_teq (a := (0 : Int32)) (b := (0 : Int32)) (by decide) (by decide) hc22_76).2) ?_
      refine XS.aloadN X73.here hx rfl (hb hby d5_25) rfl rfl ?_
      refine XS.iconst X73.here hx rfl (hb hby d5_26) ?_
      exact kt
    have HH78 := rm_iu1 l Z a0 hw [] ob vcs vf kb lo0 hi0 h64 n0 Zs66 os68 f72
    obtain ⟨cq79, kq79, q79a, q79b, q79c⟩ := isOf hZ e73 f69
    obtain ⟨_, _, ⟨T79, L79, k79, n79⟩, -, X79, ⟨Lc79, hQ79, l79, y79, z79⟩, st79⟩ := X73.virtualBack hx (y := yn21) (z := yn21) hown (mvT hZ (ow hw 59 rfl)) (mvT hZ (ow hw 60 rfl)) (notFace_of_selects (args := #[]) (mvT hZ (ow hw 62 rfl))) (mvT hZ (ow hw 62 rfl)) (mvT hZ (ow hw 61 rfl)) (by decide) (backOf (W := 0) (rm_sx1 l Z a0 hw [] oa vcs vf ob kb (1 : Int32) (2 : Int32) [(.int lo0), (.int hi0)] (fun z => (0 ≤ z.toInt ∧ ((lo0.toInt % 256 + 256 * (hi0.toInt % 256)) = 0)) ∨ (z.toInt < 0 ∧ ¬ ((lo0.toInt % 256 + 256 * (hi0.toInt % 256)) = 0))) (Q_iu1 Z ob vcs vf kb lo0 hi0 h64 n0) h64 n0 Zs66 os68 f69 f70 f71 f72 (by decide) (by decide) (by decide) HH78 (fun _ _ _ q => q)) hZ (ow hw 63 rfl) (ow hw 8 rfl) (by decide) (by decide)) q79a q79c (g := (mkF m 27 #[.val (.ref oa)] [(.int 0), (.ref oa)])) rfl (by rw [hml]; rfl) (Steps.refl _) (argsL := [(.int 0)]) (rest := []) (lenOf pd_13 rfl) rfl (by exact Nat.le_of_eq rfl) (hb hby d5_27) (fun _ _ => ⟨rfl, e73, (by decide : 4 + 0 ≤ _), (by decide : 20 + 0 ≤ _)⟩)
    dsimp only [Pt.U, Pt.locs, Pt.cells, Pt.slots] at X79 l79 y79 z79 st79 hQ79
    rw [l79, y79, z79] at X79
    obtain ⟨zi, rfl, hzi, N79q, e79⟩ := hQ79
    have N79 := Fr.app N73 N79q
    have pre81 : oP p e below (T79.setTop (mkF m 30 #[.val (.ref oa)] [(.int zi)])) (SS) := fun t kt => by
      refine pre77 _ ?_
      refine st79.trans ?_
      exact kt
    by_cases hc30_80 : zi.toInt < (0 : Int)
    · subst hSS
      obtain ⟨fs, hr, hrun, hended, hREW⟩ := X79.leaveW hS64 (by rw [e79]; exact hk64) (v := some (.int 1)) (fun h => by rw [Bd.returns] at h; cases h)
      refine ⟨_, _, pre81 _ ?_, hrun, hended, _, _, rfl, ?_, ?_, ⟨hREW.1, hREW.2.1, hREW.2.2.1, hREW.2.2.2.mono (by decide) (by decide)⟩⟩
      · refine XS.ifNo X79.here hx rfl (hb hby d5_30) rfl (own_if (own_tlt (a := zi) (b := (0 : Int32)) rfl (by decide) hc30_80).2.1) ?_
        refine XS.iconst X79.here hx rfl (hb hby d5_33) ?_
        refine XS.goto X79.here hx rfl (pc0 := 34) (pc' := 38) rfl (hb hby d5_34) (by decide) (by decide) ?_
        exact retN X79 hx (t := .boolean) Bd.returns (by simp) (hb hby d5_38) hr
      · show Q_nm1 Z _ _ _ _ _ _ h0 n0 _ T79.heap _
        rw [e79]
        have f82 := (((Keep.refl h0 []).ext E50).ext E64)
        exact ⟨_, rfl, by have iv : ((1 : Int32)).toInt = (1 : Int) := (by decide); omega, N79, f82⟩
      · show CHr Z own_EL s.vm s.heap T79.vm T79.heap
        rw [hh, e79]
        exact CR65.trans (CHv.at X79 hZ hEL CR65.1)
    · subst hSS
      obtain ⟨fs, hr, hrun, hended, hREW⟩ := X79.leaveW hS64 (by rw [e79]; exact hk64) (v := some (.int 0)) (fun h => by rw [Bd.returns] at h; cases h)
      refine ⟨_, _, pre81 _ ?_, hrun, hended, _, _, rfl, ?_, ?_, ⟨hREW.1, hREW.2.1, hREW.2.2.1, hREW.2.2.2.mono (by decide) (by decide)⟩⟩
      · refine XS.ifYes X79.here hx rfl (pc0 := 30) (pc' := 37) rfl (hb hby d5_30) rfl (own_if (own_flt (a := zi) (b := (0 : Int32)) rfl (by decide) hc30_80).2.1) (by decide) (by decide) ?_
        refine XS.iconst X79.here hx rfl (hb hby d5_37) ?_
        exact retN X79 hx (t := .boolean) Bd.returns (by simp) (hb hby d5_38) hr
      · show Q_nm1 Z _ _ _ _ _ _ h0 n0 _ T79.heap _
        rw [e79]
        have f83 := (((Keep.refl h0 []).ext E50).ext E64)
        exact ⟨_, rfl, by have iv : ((0 : Int32)).toInt = (0 : Int) := (by decide); omega, N79, f83⟩
      · show CHr Z own_EL s.vm s.heap T79.vm T79.heap
        rw [hh, e79]
        exact CR65.trans (CHv.at X79 hZ hEL CR65.1)
theorem d24_0 : decode kc23 0 = .ok (.iload_n 0, 1) := by decide +kernel
theorem d24_1 : decode kc23 1 = .ok (.ifCond .ge 11, 3) := by decide +kernel
theorem d24_12 : decode kc23 12 = .ok (.iload_n 0, 1) := by decide +kernel
theorem d24_13 : decode kc23 13 = .ok (.ldc 20, 2) := by decide +kernel
theorem d24_15 : decode kc23 15 = .ok (.if_icmp .lt 40, 3) := by decide +kernel
theorem d24_55 : decode kc23 55 = .ok (.iload_n 0, 1) := by decide +kernel
theorem d24_56 : decode kc23 56 = .ok (.iconst 1, 1) := by decide +kernel
theorem d24_57 : decode kc23 57 = .ok (.ishl, 1) := by decide +kernel
theorem d24_58 : decode kc23 58 = .ok (.ireturn, 1) := by decide +kernel
theorem ef_rm_nbl (m : MethodId) (x0 : Int32) : entryFrame m #[(.int x0)] 1 = mkF m 0 #[.val (.int x0)] [] := by first | (simp [entryFrame, mkF, argsToLocals, Value.category]; done) | rfl
def Q_nbl (Z : State) (vn : Int32) (h0 : Heap) (n0 : Nat) (v : Option Value) (h : Heap) (L : List Loc) : Prop := ∃ z : Int32, v = some (.int z) ∧ (z.toInt = 2 * vn.toInt) ∧ Fr n0 L ∧ h = h0
theorem rm_nbl (l : Launch) (Z : State) (a0 : Array Value) (hw : ∀ d ∈ tables_1, d.before a0 Z = true) (ws : List Jvm.Cond) (vn : Int32) (h0 : Heap) (n0 : Nat) (Z0 : n0 ≤ h0.size) (n1 : 0 ≤ vn.toInt) (n2 : vn.toInt ≤ 16) :
    MetFree l yn23 (head1 (Jvm.Cond.code yn23 kc23 1 (some .int) :: ws) ⟨0, 0, 0, 0⟩) (fun a U => a = #[(.int vn)] ∧ Z.Warmed39 U.vm ∧ U.heap = h0) (fun _ _ _ _ _ => True) (fun _ U o U' => ∃ v L, o = .returned v ∧ Q_nbl Z vn h0 n0 v U'.heap L ∧ FrameEnd U o U' L 0 0) := by
  refine MetFree.of_bodySF (plainFor_of_name pn_3) hisR ?_
  intro p e s m args below meth c s₁ Bd hml0 hP hK
  obtain ⟨rfl, hZ, hh⟩ := hP
  have hx := Bd.exec
  have hby := Bd.bytes
  have hml : c.maxLocals = 1 := hml0
  have hown : s.vm.findClass "java/lang/StringUTF16" = some m.cls := findClass_of_methodNamed Bd.named
  have hnm := (name_of_methodNamed Bd.named Bd.method).1
  have X0 : Stand p l e ⟨0, 0, 0, 0⟩ s m #[(.int vn)] below meth c s₁ [] 0 0 := Stand.of_body Bd
  have e0 : s₁.heap = h0 := by rw [← hh, Bd.state]; rfl
  have N0 := Fr.nil n0
  obtain ⟨SS, hSS⟩ : ∃ S, S = s₁.setTop (entryFrame m #[(.int vn)] 1) := ⟨_, rfl⟩
  have pre0 : oP p e below (s₁.setTop (mkF m 0 #[.val (.int vn)] [])) (SS) := by
    rw [hSS]; exact fun t k => castTop (ef_rm_nbl m vn) k
  have hc1_1 : ¬ (vn.toInt < (0 : Int)) := by omega
  have hc15_2 : vn.toInt < (1073741823 : Int) := by omega
  subst hSS
  obtain ⟨fs, hr, q1, q2, q3, q4⟩ := X0.leave (v := some (.int (vn <<< ((1 : Int32) &&& 31)))) (fun h => by rw [Bd.returns] at h; cases h)
  refine ⟨_, _, pre0 _ ?_, q1, q2, _, _, rfl, ?_, ⟨_, rfl⟩, q3, q4.mono (by decide) (by decide)⟩
  · refine XS.iloadN X0.here hx rfl (hb hby d24_0) rfl ?_
    refine XS.ifYes X0.here hx rfl (pc0 := 1) (pc' := 12) rfl (hb hby d24_1) rfl (own_if (own_flt (a := vn) (b := (0 : Int32)) rfl (by decide) hc1_1).2.1) (by decide) (by decide) ?_
    refine XS.iloadN X0.here hx rfl (hb hby d24_12) rfl ?_
    refine X0.ldcInt hx hown (mvT hZ (ow hw 109 rfl)) (g := (mkF m 13 #[.val (.int vn)] [(.int vn)])) rfl (hb hby d24_13) _ ?_
    refine XS.icmpYes X0.here hx rfl (pc0 := 15) (pc' := 55) rfl (hb hby d24_15) rfl (own_tlt (a := vn) (b := (1073741823 : Int32)) rfl (by decide) hc15_2).1 (by decide) (by decide) ?_
    refine XS.iloadN X0.here hx rfl (hb hby d24_55) rfl ?_
    refine XS.iconst X0.here hx rfl (hb hby d24_56) ?_
    refine XS.ishl X0.here hx rfl (hb hby d24_57) rfl ?_
    exact retI X0 hx Bd.returns (hb hby d24_58) hr
  · show Q_nbl Z _ h0 n0 _ s₁.heap _
    rw [e0]
    exact ⟨_, rfl, by have := rng32 vn; (first | (have : ((vn <<< ((1 : Int32) &&& 31))).toInt = vn.toInt * 2 := (by have : (((vn <<< ((1 : Int32) &&& 31))).toInt - vn.toInt * 2) % 4294967296 = 0 := c_ishl vn (1 : Int32) 1 (by decide); have := rng32 (vn <<< ((1 : Int32) &&& 31)); omega)) | (have : (((vn <<< ((1 : Int32) &&& 31))).toInt - vn.toInt * 2) % 4294967296 = 0 := c_ishl vn (1 : Int32) 1 (by decide); have := rng32 (vn <<< ((1 : Int32) &&& 31)))); omega, N0, rfl⟩
theorem d23_0 : decode kc24 0 = .ok (.iload_n 0, 1) := by decide +kernel
theorem d23_1 : decode kc24 1 = .ok (.invokestatic 11, 3) := by decide +kernel
theorem d23_4 : decode kc24 4 = .ok (.newarray .byte, 2) := by decide +kernel
theorem d23_6 : decode kc24 6 = .ok (.areturn, 1) := by decide +kernel
theorem ef_rm_nbf1 (m : MethodId)  : entryFrame m #[(.int 1)] 1 = mkF m 0 #[.val (.int 1)] [] := by first | (simp [entryFrame, mkF, argsToLocals, Value.category]; done) | rfl
def Q_nbf1 (Z : State)  (h0 : Heap) (n0 : Nat) (v : Option Value) (h : Heap) (L : List Loc) : Prop := ∃ (ob : Addr) (kb : ClassId), v = some (.ref ob) ∧ Fr n0 L ∧ Keep h0 h [] ∧ n0 ≤ ob ∧ h0.size ≤ ob ∧ Arv Z h ob kb .byte (2 : Int32) [(.int 0), (.int 0)] (.int 0)
theorem rm_nbf1 (l : Launch) (Z : State) (a0 : Array Value) (hw : ∀ d ∈ tables_1, d.before a0 Z = true) (ws : List Jvm.Cond)  (h0 : Heap) (n0 : Nat) (Z0 : n0 ≤ h0.size) :
    MetFree l yn24 (head1 (Jvm.Cond.code yn24 kc24 1 (some (.array .byte)) :: ws) ⟨1, 1, 2, 12⟩) (fun a U => a = #[(.int 1)] ∧ Z.Warmed39 U.vm ∧ U.heap = h0) (fun _ _ _ _ _ => True) (fun _ U o U' => ∃ v L, o = .returned v ∧ Q_nbf1 Z  h0 n0 v U'.heap L ∧ FrameEnd U o U' L 1 2) := by
  refine MetFree.of_bodySF (plainFor_of_name pn_3) hisR ?_
  intro p e s m args below meth c s₁ Bd hml0 hP hK
  obtain ⟨rfl, hZ, hh⟩ := hP
  have hx := Bd.exec
  have hby := Bd.bytes
  have hml : c.maxLocals = 1 := hml0
  have hown : s.vm.findClass "java/lang/StringUTF16" = some m.cls := findClass_of_methodNamed Bd.named
  have hnm := (name_of_methodNamed Bd.named Bd.method).1
  have X0 : Stand p l e ⟨1, 1, 2, 12⟩ s m #[(.int 1)] below meth c s₁ [] 0 0 := Stand.of_body Bd
  have e0 : s₁.heap = h0 := by rw [← hh, Bd.state]; rfl
  have N0 := Fr.nil n0
  obtain ⟨SS, hSS⟩ : ∃ S, S = s₁.setTop (entryFrame m #[(.int 1)] 1) := ⟨_, rfl⟩
  have pre0 : oP p e below (s₁.setTop (mkF m 0 #[.val (.int 1)] [])) (SS) := by
    rw [hSS]; exact fun t k => castTop (ef_rm_nbf1 m ) k
  obtain ⟨_, _, ⟨T1, L1, k1, n1⟩, -, X1, ⟨Lc1, hQ1, l1, y1, z1⟩, st1⟩ := Jvm.LawKit.callS X0 hx (y := yn23) hown (mvT hZ (ow hw 106 rfl)) (mvT hZ (ow hw 107 rfl)) (mvT hZ (ow hw 39 rfl)) (mvT hZ (ow hw 108 rfl)) (by decide) (backOf (W := 0) (rm_nbl l Z a0 hw [] (1 : Int32) h0 n0 Z0 (by decide) (by decide)) hZ (ow hw 108 rfl) (ow hw 39 rfl) (by decide) (by decide)) (g := (mkF m 1 #[.val (.int 1)] [(.int 1)])) rfl (by rw [hml]; rfl) (argsL := [(.int 1)]) (rest := []) (lenOf pd_13 rfl) rfl (by exact Nat.le_of_eq rfl) (hb hby d23_1) (fun _ _ => ⟨rfl, e0, (by decide : 0 + 0 ≤ _), (by decide : 0 + 0 ≤ _)⟩)
  dsimp only [Pt.U, Pt.locs, Pt.cells, Pt.slots] at X1 l1 y1 z1 st1 hQ1
  rw [l1, y1, z1] at X1
  obtain ⟨zz, rfl, hzz, N1q, e1⟩ := hQ1
  have N1 := Fr.app N0 N1q
  have pre2 : oP p e below (T1.setTop (mkF m 4 #[.val (.int 1)] [(.int zz)])) (SS) := fun t kt => by
    refine pre0 _ ?_
    refine XS.iloadN X0.here hx rfl (hb hby d23_0) rfl ?_
    refine st1 _ ?_
    exact kt
  have ezz : zz = (2 : Int32) := Int32.toInt_inj.mp (by rw [hzz]; decide)
  subst ezz
  have pre3 : oP p e below (T1.setTop (mkF m 4 #[.val (.int 1)] [(.int 2)])) (SS) := pre2
  obtain ⟨T4, h4, k4, X4, e4, E4, A4, st4⟩ := newP X1 hx hZ (ow hw 20 rfl) e1 (g := (mkF m 4 #[.val (.int 1)] [(.int 2)])) rfl (hb hby d23_4) rfl (by decide) (cap := 2) (by decide) (by decide) (by decide) (by decide)
  obtain ⟨b4, g4⟩ : ∃ z, z = h0.size := ⟨_, rfl⟩
  have g_b4 : n0 ≤ b4 := Nat.le_trans Z0 (Nat.le_of_eq g4.symm)
  have sz_b4 : h0.size ≤ b4 := Nat.le_trans (Keep.refl h0 []).1 (Nat.le_of_eq g4.symm)
  rw [← g4] at A4 st4
  have Zs5 : n0 ≤ h4.size := Nat.le_trans Z0 E4.1
  have V4 : Arv Z h4 b4 k4 .byte (2 : Int32) [(.int 0), (.int 0)] (.int 0) := (Arv.new A4 (by decide)).pad (pad_rep [] (.int 0) 2)
  subst hSS
  obtain ⟨fs, hr, q1, q2, q3, q4⟩ := X4.leave (v := some (.ref b4)) (fun h => by rw [Bd.returns] at h; cases h)
  refine ⟨_, _, pre3 _ ?_, q1, q2, _, _, rfl, ?_, ⟨_, rfl⟩, q3, q4.mono (by decide) (by decide)⟩
  · refine st4 _ ?_
    jvm_step X4.here [X4.here.top, hx, (hb hby d23_6), X4.method', Bd.returns, Value.isRef, FieldType.isReference]
    first | (intro acts; rw [hr _ acts rfl rfl rfl]) | rw [hr _ _ rfl rfl rfl]
    exact Steps.refl _
  · show Q_nbf1 Z  h0 n0 _ T4.heap _
    rw [e4]
    have f6 := ((Keep.refl h0 []).ext E4)
    exact ⟨b4, _, rfl, N1, f6, g_b4, sz_b4, V4⟩
theorem d25_0 : decode kc25 0 = .ok (.getstatic 44, 3) := by decide +kernel
theorem d25_3 : decode kc25 3 = .ok (.ifCond .ne 25, 3) := by decide +kernel
theorem d25_28 : decode kc25 28 = .ok (.iload_n 1, 1) := by decide +kernel
theorem d25_29 : decode kc25 29 = .ok (.iconst 1, 1) := by decide +kernel
theorem d25_30 : decode kc25 30 = .ok (.ishl, 1) := by decide +kernel
theorem d25_31 : decode kc25 31 = .ok (.istore_n 1, 1) := by decide +kernel
theorem d25_32 : decode kc25 32 = .ok (.aload_n 0, 1) := by decide +kernel
theorem d25_33 : decode kc25 33 = .ok (.iload_n 1, 1) := by decide +kernel
theorem d25_34 : decode kc25 34 = .ok (.iinc 1 1, 3) := by decide +kernel
theorem d25_37 : decode kc25 37 = .ok (.iload_n 2, 1) := by decide +kernel
theorem d25_38 : decode kc25 38 = .ok (.getstatic 59, 3) := by decide +kernel
theorem d25_41 : decode kc25 41 = .ok (.ishr, 1) := by decide +kernel
theorem d25_42 : decode kc25 42 = .ok (.i2b, 1) := by decide +kernel
theorem d25_43 : decode kc25 43 = .ok (.bastore, 1) := by decide +kernel
theorem d25_44 : decode kc25 44 = .ok (.aload_n 0, 1) := by decide +kernel
theorem d25_45 : decode kc25 45 = .ok (.iload_n 1, 1) := by decide +kernel
theorem d25_46 : decode kc25 46 = .ok (.iload_n 2, 1) := by decide +kernel
theorem d25_47 : decode kc25 47 = .ok (.getstatic 63, 3) := by decide +kernel
theorem d25_50 : decode kc25 50 = .ok (.ishr, 1) := by decide +kernel
theorem d25_51 : decode kc25 51 = .ok (.i2b, 1) := by decide +kernel
theorem d25_52 : decode kc25 52 = .ok (.bastore, 1) := by decide +kernel
theorem d25_53 : decode kc25 53 = .ok (.return_, 1) := by decide +kernel
theorem ef_rm_pc (m : MethodId) (x0 : Addr) (x1 : Int32) (x2 : Int32) : entryFrame m #[(.ref x0), (.int x1), (.int x2)] 3 = mkF m 0 #[.val (.ref x0), .val (.int x1), .val (.int x2)] [] := by first | (simp [entryFrame, mkF, argsToLocals, Value.category]; done) | rfl
def Q_pc (Z : State) (ob : Addr) (vi : Int32) (vc : Int32) (vcs : Int32) (vf : Value) (kb : ClassId) (zl : Int32) (vs : List Value) (im : Nat) (h0 : Heap) (n0 : Nat) (v : Option Value) (h : Heap) (L : List Loc) : Prop := ∃ lo hi : Int32, v = none ∧ Fr n0 L ∧ Keep h0 h [ob] ∧ Arv Z h ob kb .byte zl ((vs.set (2 * im) (.int lo)).set (2 * im + 1) (.int hi)) (.int 0) ∧ lo.toInt % 256 = vc.toInt % 256 ∧ hi.toInt % 256 = vc.toInt / 256
theorem rm_pc (l : Launch) (Z : State) (a0 : Array Value) (hw : ∀ d ∈ tables_1, d.before a0 Z = true) (ws : List Jvm.Cond) (ob : Addr) (vi : Int32) (vc : Int32) (vcs : Int32) (vf : Value) (kb : ClassId) (zl : Int32) (vs : List Value) (im : Nat) (h0 : Heap) (n0 : Nat) (Z0 : n0 ≤ h0.size) (Os : own_st Z h0 vcs vf) (Vb : Arv Z h0 ob kb .byte zl vs (.int 0)) (gb : n0 ≤ ob) (i1 : 0 ≤ vi.toInt) (i2 : 2 * vi.toInt + 1 < zl.toInt) (hin : vi.toInt = im) (hlen : 2 * im + 1 < vs.length) (c1 : 0 ≤ vc.toInt) (c2 : vc.toInt < 65536) :
    MetFree l yn25 (head1 (Jvm.Cond.code yn25 kc25 3 none :: ws) ⟨0, 0, 0, 0⟩) (fun a U => a = #[(.ref ob), (.int vi), (.int vc)] ∧ Z.Warmed39 U.vm ∧ U.heap = h0) (fun _ _ _ _ _ => True) (fun _ U o U' => ∃ v L, o = .returned v ∧ Q_pc Z ob vi vc vcs vf kb zl vs im h0 n0 v U'.heap L ∧ FrameEnd U o U' L 0 0) := by
  refine MetFree.of_bodySF (plainFor_of_name pn_3) hisR ?_
  intro p e s m args below meth c s₁ Bd hml0 hP hK
  obtain ⟨rfl, hZ, hh⟩ := hP
  have hx := Bd.exec
  have hby := Bd.bytes
  have hml : c.maxLocals = 3 := hml0
  have hown : s.vm.findClass "java/lang/StringUTF16" = some m.cls := findClass_of_methodNamed Bd.named
  have hnm := (name_of_methodNamed Bd.named Bd.method).1
  have X0 : Stand p l e ⟨0, 0, 0, 0⟩ s m #[(.ref ob), (.int vi), (.int vc)] below meth c s₁ [] 0 0 := Stand.of_body Bd
  have e0 : s₁.heap = h0 := by rw [← hh, Bd.state]; rfl
  have N0 := Fr.nil n0
  obtain ⟨SS, hSS⟩ : ∃ S, S = s₁.setTop (entryFrame m #[(.ref ob), (.int vi), (.int vc)] 3) := ⟨_, rfl⟩
  have pre0 : oP p e below (s₁.setTop (mkF m 0 #[.val (.ref ob), .val (.int vi), .val (.int vc)] [])) (SS) := by
    rw [hSS]; exact fun t k => castTop (ef_rm_pc m ob vi vc) k
  have rzl := rng32 zl
  obtain ⟨T1, X1, e1, st1⟩ := getS2 X0 hx hZ hown (host := "") (Or.inl (ow hw 113 rfl)) Via.refl e0 Os.2.2.2.2.1 (g := (mkF m 0 #[.val (.ref ob), .val (.int vi), .val (.int vc)] [])) rfl (hb hby d25_0)
  have hc3_2 : ¬ ((1 : Int) = (0 : Int)) := by decide
  obtain ⟨T3, X3, e3, st3⟩ := getS2 X1 hx hZ hown (host := "") (Or.inl (ow hw 114 rfl)) Via.refl e1 Os.2.2.2.2.2.1 (g := (mkF m 38 #[.val (.ref ob), .val (.int ((vi <<< ((1 : Int32) &&& 31)) + (1 : Int32))), .val (.int vc)] [(.int vc), (.int (vi <<< ((1 : Int32) &&& 31))), (.ref ob)])) rfl (hb hby d25_38)
  obtain ⟨cl4, Ar4, q4, S4, M4, H4, G4⟩ := id Vb
  have hin4 : ¬ ((vi <<< ((1 : Int32) &&& 31)) < 0 ∨ cl4.slots.size ≤ ((vi <<< ((1 : Int32) &&& 31))).toNatClampNeg) := inb_of S4 ⟨by rw [Int32.lt_iff_toInt_lt]; have k0 : (0 : Int32).toInt = 0 := (by decide); have := rng32 vi; (first | (have : ((vi <<< ((1 : Int32) &&& 31))).toInt = vi.toInt * 2 := (by have : (((vi <<< ((1 : Int32) &&& 31))).toInt - vi.toInt * 2) % 4294967296 = 0 := c_ishl vi (1 : Int32) 1 (by decide); have := rng32 (vi <<< ((1 : Int32) &&& 31)); omega)) | (have : (((vi <<< ((1 : Int32) &&& 31))).toInt - vi.toInt * 2) % 4294967296 = 0 := c_ishl vi (1 : Int32) 1 (by decide); have := rng32 (vi <<< ((1 : Int32) &&& 31)))); omega, by rw [Int32.lt_iff_toInt_lt]; have := rng32 vi; (first | (have : ((vi <<< ((1 : Int32) &&& 31))).toInt = vi.toInt * 2 := (by have : (((vi <<< ((1 : Int32) &&& 31))).toInt - vi.toInt * 2) % 4294967296 = 0 := c_ishl vi (1 : Int32) 1 (by decide); have := rng32 (vi <<< ((1 : Int32) &&& 31)); omega)) | (have : (((vi <<< ((1 : Int32) &&& 31))).toInt - vi.toInt * 2) % 4294967296 = 0 := c_ishl vi (1 : Int32) 1 (by decide); have := rng32 (vi <<< ((1 : Int32) &&& 31)))); omega⟩
  obtain ⟨T5, h5, X5, e5, W5, st5⟩ := stB X3 hx hZ e3 Ar4 (j := (vi <<< ((1 : Int32) &&& 31))) hin4 (g := (mkF m 43 #[.val (.ref ob), .val (.int ((vi <<< ((1 : Int32) &&& 31)) + (1 : Int32))), .val (.int vc)] [(.int ((vc >>> ((0 : Int32) &&& 31)).toInt8.toInt32)), (.int (vi <<< ((1 : Int32) &&& 31))), (.ref ob)])) rfl rfl (hb hby d25_43)
  have N5 := Fr.snoc X5 N0 gb
  have Zs6 : n0 ≤ h5.size := by rw [W5.size]; exact Z0
  have V5 : Arv Z h5 ob kb .byte zl (vs.set (2 * im) (.int (nar .byte ((vc >>> ((0 : Int32) &&& 31)).toInt8.toInt32)))) (.int 0) := Arv.set Ar4 q4 S4 M4 H4 G4 (fits_nar_byte _) W5 (2 * im) (own_nat (by push_cast; have := rng32 vi; (first | (have : ((vi <<< ((1 : Int32) &&& 31))).toInt = vi.toInt * 2 := (by have : (((vi <<< ((1 : Int32) &&& 31))).toInt - vi.toInt * 2) % 4294967296 = 0 := c_ishl vi (1 : Int32) 1 (by decide); have := rng32 (vi <<< ((1 : Int32) &&& 31)); omega)) | (have : (((vi <<< ((1 : Int32) &&& 31))).toInt - vi.toInt * 2) % 4294967296 = 0 := c_ishl vi (1 : Int32) 1 (by decide); have := rng32 (vi <<< ((1 : Int32) &&& 31)))); omega)) (by omega)
  have os7 := (own_st_wr Os W5)
  obtain ⟨T8, X8, e8, st8⟩ := getS2 X5 hx hZ hown (host := "") (Or.inl (ow hw 115 rfl)) Via.refl e5 os7.2.2.2.2.2.2 (g := (mkF m 47 #[.val (.ref ob), .val (.int ((vi <<< ((1 : Int32) &&& 31)) + (1 : Int32))), .val (.int vc)] [(.int vc), (.int ((vi <<< ((1 : Int32) &&& 31)) + (1 : Int32))), (.ref ob)])) rfl (hb hby d25_47)
  obtain ⟨cl9, Ar9, q9, S9, M9, H9, G9⟩ := id V5
  have hin9 : ¬ (((vi <<< ((1 : Int32) &&& 31)) + (1 : Int32)) < 0 ∨ cl9.slots.size ≤ (((vi <<< ((1 : Int32) &&& 31)) + (1 : Int32))).toNatClampNeg) := inb_of S9 ⟨by rw [Int32.lt_iff_toInt_lt]; have k0 : (0 : Int32).toInt = 0 := (by decide); have := rng32 vi; (first | (have : ((vi <<< ((1 : Int32) &&& 31))).toInt = vi.toInt * 2 := (by have : (((vi <<< ((1 : Int32) &&& 31))).toInt - vi.toInt * 2) % 4294967296 = 0 := c_ishl vi (1 : Int32) 1 (by decide); have := rng32 (vi <<< ((1 : Int32) &&& 31)); omega)) | (have : (((vi <<< ((1 : Int32) &&& 31))).toInt - vi.toInt * 2) % 4294967296 = 0 := c_ishl vi (1 : Int32) 1 (by decide); have := rng32 (vi <<< ((1 : Int32) &&& 31)))); (first | (have : (((vi <<< ((1 : Int32) &&& 31)) + (1 : Int32))).toInt = (vi <<< ((1 : Int32) &&& 31)).toInt + (1 : Int) := (by have : ((((vi <<< ((1 : Int32) &&& 31)) + (1 : Int32))).toInt - ((vi <<< ((1 : Int32) &&& 31)).toInt + (1 : Int))) % 4294967296 = 0 := c_iadd (vi <<< ((1 : Int32) &&& 31)) (1 : Int32); have := rng32 ((vi <<< ((1 : Int32) &&& 31)) + (1 : Int32)); omega)) | (have : ((((vi <<< ((1 : Int32) &&& 31)) + (1 : Int32))).toInt - ((vi <<< ((1 : Int32) &&& 31)).toInt + (1 : Int))) % 4294967296 = 0 := c_iadd (vi <<< ((1 : Int32) &&& 31)) (1 : Int32); have := rng32 ((vi <<< ((1 : Int32) &&& 31)) + (1 : Int32)))); omega, by rw [Int32.lt_iff_toInt_lt]; have := rng32 vi; (first | (have : ((vi <<< ((1 : Int32) &&& 31))).toInt = vi.toInt * 2 := (by have : (((vi <<< ((1 : Int32) &&& 31))).toInt - vi.toInt * 2) % 4294967296 = 0 := c_ishl vi (1 : Int32) 1 (by decide); have := rng32 (vi <<< ((1 : Int32) &&& 31)); omega)) | (have : (((vi <<< ((1 : Int32) &&& 31))).toInt - vi.toInt * 2) % 4294967296 = 0 := c_ishl vi (1 : Int32) 1 (by decide); have := rng32 (vi <<< ((1 : Int32) &&& 31)))); (first | (have : (((vi <<< ((1 : Int32) &&& 31)) + (1 : Int32))).toInt = (vi <<< ((1 : Int32) &&& 31)).toInt + (1 : Int) := (by have : ((((vi <<< ((1 : Int32) &&& 31)) + (1 : Int32))).toInt - ((vi <<< ((1 : Int32) &&& 31)).toInt + (1 : Int))) % 4294967296 = 0 := c_iadd (vi <<< ((1 : Int32) &&& 31)) (1 : Int32); have := rng32 ((vi <<< ((1 : Int32) &&& 31)) + (1 : Int32)); omega)) | (have : ((((vi <<< ((1 : Int32) &&& 31)) + (1 : Int32))).toInt - ((vi <<< ((1 : Int32) &&& 31)).toInt + (1 : Int))) % 4294967296 = 0 := c_iadd (vi <<< ((1 : Int32) &&& 31)) (1 : Int32); have := rng32 ((vi <<< ((1 : Int32) &&& 31)) + (1 : Int32)))); omega⟩
  obtain ⟨T10, h10, X10, e10, W10, st10⟩ := stB X8 hx hZ e8 Ar9 (j := ((vi <<< ((1 : Int32) &&& 31)) + (1 : Int32))) hin9 (g := (mkF m 52 #[.val (.ref ob), .val (.int ((vi <<< ((1 : Int32) &&& 31)) + (1 : Int32))), .val (.int vc)] [(.int ((vc >>> ((8 : Int32) &&& 31)).toInt8.toInt32)), (.int ((vi <<< ((1 : Int32) &&& 31)) + (1 : Int32))), (.ref ob)])) rfl rfl (hb hby d25_52)
  have N10 := Fr.snoc X10 N5 gb
  have Zs11 : n0 ≤ h10.size := by rw [W10.size]; exact Zs6
  have V10 : Arv Z h10 ob kb .byte zl ((vs.set (2 * im) (.int (nar .byte ((vc >>> ((0 : Int32) &&& 31)).toInt8.toInt32)))).set (2 * im + 1) (.int (nar .byte ((vc >>> ((8 : Int32) &&& 31)).toInt8.toInt32)))) (.int 0) := Arv.set Ar9 q9 S9 M9 H9 G9 (fits_nar_byte _) W10 (2 * im + 1) (own_nat (by push_cast; have := rng32 vi; (first | (have : ((vi <<< ((1 : Int32) &&& 31))).toInt = vi.toInt * 2 := (by have : (((vi <<< ((1 : Int32) &&& 31))).toInt - vi.toInt * 2) % 4294967296 = 0 := c_ishl vi (1 : Int32) 1 (by decide); have := rng32 (vi <<< ((1 : Int32) &&& 31)); omega)) | (have : (((vi <<< ((1 : Int32) &&& 31))).toInt - vi.toInt * 2) % 4294967296 = 0 := c_ishl vi (1 : Int32) 1 (by decide); have := rng32 (vi <<< ((1 : Int32) &&& 31)))); (first | (have : (((vi <<< ((1 : Int32) &&& 31)) + (1 : Int32))).toInt = (vi <<< ((1 : Int32) &&& 31)).toInt + (1 : Int) := (by have : ((((vi <<< ((1 : Int32) &&& 31)) + (1 : Int32))).toInt - ((vi <<< ((1 : Int32) &&& 31)).toInt + (1 : Int))) % 4294967296 = 0 := c_iadd (vi <<< ((1 : Int32) &&& 31)) (1 : Int32); have := rng32 ((vi <<< ((1 : Int32) &&& 31)) + (1 : Int32)); omega)) | (have : ((((vi <<< ((1 : Int32) &&& 31)) + (1 : Int32))).toInt - ((vi <<< ((1 : Int32) &&& 31)).toInt + (1 : Int))) % 4294967296 = 0 := c_iadd (vi <<< ((1 : Int32) &&& 31)) (1 : Int32); have := rng32 ((vi <<< ((1 : Int32) &&& 31)) + (1 : Int32)))); omega)) (by rw [List.length_set]; omega)
  subst hSS
  obtain ⟨fs, hr, q1, q2, q3, q4⟩ := X10.leave (v := none) (fun _ => rfl)
  refine ⟨_, _, pre0 _ ?_, q1, q2, _, _, rfl, ?_, ⟨_, rfl⟩, q3, q4.mono (by decide) (by decide)⟩
  · refine st1 _ ?_
    refine XS.ifYes X1.here hx rfl (pc0 := 3) (pc' := 28) rfl (hb hby d25_3) rfl (own_if (own_feq (a := (1 : Int32)) (b := (0 : Int32)) (by decide) (by decide) hc3_2).2) (by decide) (by decide) ?_
    refine XS.iloadN X1.here hx rfl (hb hby d25_28) rfl ?_
    refine XS.iconst X1.here hx rfl (hb hby d25_29) ?_
    refine XS.ishl X1.here hx rfl (hb hby d25_30) rfl ?_
    refine XS.istoreN X1.here hx rfl (hb hby d25_31) rfl (l' := #[.val (.ref ob), .val (.int (vi <<< ((1 : Int32) &&& 31))), .val (.int vc)]) rfl ?_
    refine XS.aloadN X1.here hx rfl (hb hby d25_32) rfl rfl ?_
    refine XS.iloadN X1.here hx rfl (hb hby d25_33) rfl ?_
    refine XS.iinc X1.here hx rfl (hb hby d25_34) rfl (l' := #[.val (.ref ob), .val (.int ((vi <<< ((1 : Int32) &&& 31)) + (1 : Int32))), .val (.int vc)]) rfl ?_
    refine XS.iloadN X1.here hx rfl (hb hby d25_37) rfl ?_
    refine st3 _ ?_
    refine XS.ishr X3.here hx rfl (hb hby d25_41) rfl ?_
    refine XS.i2b X3.here hx rfl (hb hby d25_42) rfl ?_
    refine st5 _ ?_
    refine XS.aloadN X5.here hx rfl (hb hby d25_44) rfl rfl ?_
    refine XS.iloadN X5.here hx rfl (hb hby d25_45) rfl ?_
    refine XS.iloadN X5.here hx rfl (hb hby d25_46) rfl ?_
    refine st8 _ ?_
    refine XS.ishr X8.here hx rfl (hb hby d25_50) rfl ?_
    show Steps p.tables e below (T8.setTop (mkF m 51 #[.val (.ref ob), .val (.int ((vi <<< ((1 : Int32) &&& 31)) + (1 : Int32))), .val (.int vc)] [(.int (vc >>> ((8 : Int32) &&& 31))), (.int ((vi <<< ((1 : Int32) &&& 31)) + (1 : Int32))), (.ref ob)])) _
    refine XS.i2b X8.here hx rfl (hb hby d25_51) rfl ?_
    refine st10 _ ?_
    exact X10.returnOut hx Bd.returns (hb hby d25_53) hr
  · show Q_pc Z _ _ _ _ _ _ _ _ _ h0 n0 _ T10.heap _
    rw [e10]
    have f12 := (((Keep.refl h0 [ob]).wr W5 (Or.inl (List.mem_of_getElem? (i := 0) rfl))).wr W10 (Or.inl (List.mem_of_getElem? (i := 0) rfl)))
    exact ⟨_, _, rfl, N10, f12, V10, own_lo vc, own_hi vc c1 c2⟩
theorem d22_0 : decode kc26 0 = .ok (.iload_n 2, 1) := by decide +kernel
theorem d22_1 : decode kc26 1 = .ok (.invokestatic 107, 3) := by decide +kernel
theorem d22_4 : decode kc26 4 = .ok (.astore_n 3, 1) := by decide +kernel
theorem d22_5 : decode kc26 5 = .ok (.iconst 0, 1) := by decide +kernel
theorem d22_6 : decode kc26 6 = .ok (.istore 4, 2) := by decide +kernel
theorem d22_8 : decode kc26 8 = .ok (.iload 4, 2) := by decide +kernel
theorem d22_10 : decode kc26 10 = .ok (.iload_n 2, 1) := by decide +kernel
theorem d22_11 : decode kc26 11 = .ok (.if_icmp .ge 21, 3) := by decide +kernel
theorem d22_14 : decode kc26 14 = .ok (.aload_n 3, 1) := by decide +kernel
theorem d22_15 : decode kc26 15 = .ok (.iload 4, 2) := by decide +kernel
theorem d22_17 : decode kc26 17 = .ok (.aload_n 0, 1) := by decide +kernel
theorem d22_18 : decode kc26 18 = .ok (.iload_n 1, 1) := by decide +kernel
theorem d22_19 : decode kc26 19 = .ok (.caload, 1) := by decide +kernel
theorem d22_20 : decode kc26 20 = .ok (.invokestatic 111, 3) := by decide +kernel
theorem d22_23 : decode kc26 23 = .ok (.iinc 1 1, 3) := by decide +kernel
theorem d22_26 : decode kc26 26 = .ok (.iinc 4 1, 3) := by decide +kernel
theorem d22_29 : decode kc26 29 = .ok (.goto (-21), 3) := by decide +kernel
theorem d22_32 : decode kc26 32 = .ok (.aload_n 3, 1) := by decide +kernel
theorem d22_33 : decode kc26 33 = .ok (.areturn, 1) := by decide +kernel
theorem ef_rm_tb1 (m : MethodId) (x0 : Addr) : entryFrame m #[(.ref x0), (.int 0), (.int 1)] 5 = mkF m 0 #[.val (.ref x0), .val (.int 0), .val (.int 1), .unset, .unset] [] := by first | (simp [entryFrame, mkF, argsToLocals, Value.category]; done) | rfl
theorem pd_14 : parseMethodDescriptor "(I)[B" = some ⟨[.int], some (.array .byte)⟩ := by decide +kernel
theorem pd_15 : parseMethodDescriptor "([BII)V" = some ⟨[(.array .byte), .int, .int], none⟩ := by decide +kernel
def Q_tb1 (Z : State) (oc : Addr) (vcs : Int32) (vf : Value) (kC : ClassId) (c0 : Int32) (h0 : Heap) (n0 : Nat) (v : Option Value) (h : Heap) (L : List Loc) : Prop := ∃ (ob : Addr) (kb : ClassId) (lo0 hi0 : Int32), v = some (.ref ob) ∧ Fr n0 L ∧ Keep h0 h [] ∧ n0 ≤ ob ∧ h0.size ≤ ob ∧ Arv Z h ob kb .byte (2 : Int32) [(.int lo0), (.int hi0)] (.int 0) ∧ lo0.toInt % 256 = c0.toInt % 256 ∧ hi0.toInt % 256 = c0.toInt / 256
theorem rm_tb1 (l : Launch) (Z : State) (a0 : Array Value) (hw : ∀ d ∈ tables_1, d.before a0 Z = true) (ws : List Jvm.Cond) (oc : Addr) (vcs : Int32) (vf : Value) (kC : ClassId) (c0 : Int32) (h0 : Heap) (n0 : Nat) (Z0 : n0 ≤ h0.size) (Os : own_st Z h0 vcs vf) (Vc : Arv Z h0 oc kC .char (1 : Int32) [(.int c0)] (.int 0)) (uc0 : 0 ≤ c0.toInt) (vc0 : c0.toInt < 65536) :
    MetFree l yn26 (head1 (Jvm.Cond.code yn26 kc26 5 (some (.array .byte)) :: ws) ⟨2, 1, 2, 24⟩) (fun a U => a = #[(.ref oc), (.int 0), (.int 1)] ∧ Z.Warmed39 U.vm ∧ U.heap = h0) (fun _ _ _ _ _ => True) (fun _ U o U' => ∃ v L, o = .returned v ∧ Q_tb1 Z oc vcs vf kC c0 h0 n0 v U'.heap L ∧ FrameEnd U o U' L 1 2) := by
  refine MetFree.of_bodySF (plainFor_of_name pn_3) hisR ?_
  intro p e s m args below meth c s₁ Bd hml0 hP hK
  obtain ⟨rfl, hZ, hh⟩ := hP
  have hx := Bd.exec
  have hby := Bd.bytes
  have hml : c.maxLocals = 5 := hml0
  have hown : s.vm.findClass "java/lang/StringUTF16" = some m.cls := findClass_of_methodNamed Bd.named
  have hnm := (name_of_methodNamed Bd.named Bd.method).1
  have X0 : Stand p l e ⟨2, 1, 2, 24⟩ s m #[(.ref oc), (.int 0), (.int 1)] below meth c s₁ [] 0 0 := Stand.of_body Bd
  have e0 : s₁.heap = h0 := by rw [← hh, Bd.state]; rfl
  have N0 := Fr.nil n0
  obtain ⟨SS, hSS⟩ : ∃ S, S = s₁.setTop (entryFrame m #[(.ref oc), (.int 0), (.int 1)] 5) := ⟨_, rfl⟩
  have pre0 : oP p e below (s₁.setTop (mkF m 0 #[.val (.ref oc), .val (.int 0), .val (.int 1), .unset, .unset] [])) (SS) := by
    rw [hSS]; exact fun t k => castTop (ef_rm_tb1 m oc) k
  obtain ⟨_, _, ⟨T1, L1, k1, n1⟩, -, X1, ⟨Lc1, hQ1, l1, y1, z1⟩, st1⟩ := Jvm.LawKit.callS X0 hx (y := yn24) hown (mvT hZ (ow hw 103 rfl)) (mvT hZ (ow hw 104 rfl)) (mvT hZ (ow hw 39 rfl)) (mvT hZ (ow hw 105 rfl)) (by decide) (backOf (W := 0) (rm_nbf1 l Z a0 hw []  h0 n0 Z0 ) hZ (ow hw 105 rfl) (ow hw 39 rfl) (by decide) (by decide)) (g := (mkF m 1 #[.val (.ref oc), .val (.int 0), .val (.int 1), .unset, .unset] [(.int 1)])) rfl (by rw [hml]; rfl) (argsL := [(.int 1)]) (rest := []) (lenOf pd_14 rfl) rfl (by exact Nat.le_of_eq rfl) (hb hby d22_1) (fun _ _ => ⟨rfl, e0, (by decide : 0 + 1 ≤ _), (by decide : 0 + 2 ≤ _)⟩)
  dsimp only [Pt.U, Pt.locs, Pt.cells, Pt.slots] at X1 l1 y1 z1 st1 hQ1
  rw [l1, y1, z1] at X1
  obtain ⟨ob, kb, rfl, N1q, K1, gb, szb, Vb1⟩ := hQ1
  have N1 := Fr.app N0 N1q
  have Zs2 : n0 ≤ T1.heap.size := Nat.le_trans Z0 K1.1
  have ne_oc_ob : oc ≠ ob := Nat.ne_of_lt (Nat.lt_of_lt_of_le Vc.lt szb)
  have sz_ob : h0.size ≤ ob := Nat.le_trans (Keep.refl h0 []).1 szb
  have hc11_3 : (0 : Int) < (1 : Int) := by decide
  have f4 := (Vc.keep K1 nin0)
  obtain ⟨cl5, Ar5, q5, S5, M5, H5, G5⟩ := id f4
  have hin5 : ¬ ((0 : Int32) < 0 ∨ cl5.slots.size ≤ ((0 : Int32)).toNatClampNeg) := inb_of S5 ⟨by decide, by decide⟩
  have hat5 : cl5.slots[((0 : Int32)).toNatClampNeg]? = some (.int c0) := Has.at H5 hin5 rfl
  have os7 := (own_st_keep Os K1 ns0)
  obtain ⟨_, _, ⟨T6, L6, k6, n6⟩, -, X6, ⟨Lc6, hQ6, l6, y6, z6⟩, st6⟩ := Jvm.LawKit.callS X1 hx (y := yn25) hown (mvT hZ (ow hw 110 rfl)) (mvT hZ (ow hw 111 rfl)) (mvT hZ (ow hw 39 rfl)) (mvT hZ (ow hw 112 rfl)) (by decide) (backOf (W := 0) (rm_pc l Z a0 hw [] ob (0 : Int32) c0 vcs vf kb (2 : Int32) [(.int 0), (.int 0)] 0 T1.heap n0 Zs2 os7 Vb1 gb (by decide) (by decide) (by decide) (Nat.le_of_ble_eq_true rfl) uc0 vc0) hZ (ow hw 112 rfl) (ow hw 39 rfl) (by decide) (by decide)) (g := (mkF m 20 #[.val (.ref oc), .val (.int 0), .val (.int 1), .val (.ref ob), .val (.int 0)] [(.int c0), (.int 0), (.ref ob)])) rfl (by rw [hml]; rfl) (argsL := [(.ref ob), (.int 0), (.int c0)]) (rest := []) (lenOf pd_15 rfl) rfl (by exact Nat.le_of_eq rfl) (hb hby d22_20) (fun _ _ => ⟨rfl, rfl, (by decide : 1 + 0 ≤ _), (by decide : 2 + 0 ≤ _)⟩)
  dsimp only [Pt.U, Pt.locs, Pt.cells, Pt.slots] at X6 l6 y6 z6 st6 hQ6
  rw [l6, y6, z6] at X6
  obtain ⟨lo0, hi0, rfl, N6q, K6, Vb6, ql0, qh0⟩ := hQ6
  have N6 := Fr.app N1 N6q
  have Zs8 : n0 ≤ T6.heap.size := Nat.le_trans Zs2 K6.1
  have Vb6 : Arv Z T6.heap ob kb .byte (2 : Int32) [(.int lo0), (.int hi0)] (.int 0) := Vb6
  have hc11_9 : ¬ ((1 : Int) < (1 : Int)) := by decide
  subst hSS
  obtain ⟨fs, hr, q1, q2, q3, q4⟩ := X6.leave (v := some (.ref ob)) (fun h => by rw [Bd.returns] at h; cases h)
  refine ⟨_, _, pre0 _ ?_, q1, q2, _, _, rfl, ?_, ⟨_, rfl⟩, q3, q4.mono (by decide) (by decide)⟩
  · refine XS.iloadN X0.here hx rfl (hb hby d22_0) rfl ?_
    refine st1 _ ?_
    refine XS.astoreN X1.here hx rfl (hb hby d22_4) rfl rfl (l' := #[.val (.ref oc), .val (.int 0), .val (.int 1), .val (.ref ob), .unset]) rfl ?_
    refine XS.iconst X1.here hx rfl (hb hby d22_5) ?_
    refine XS.istore X1.here hx rfl (hb hby d22_6) rfl (l' := #[.val (.ref oc), .val (.int 0), .val (.int 1), .val (.ref ob), .val (.int 0)]) rfl ?_
    refine XS.iload X1.here hx rfl (hb hby d22_8) rfl ?_
    refine XS.iloadN X1.here hx rfl (hb hby d22_10) rfl ?_
    refine XS.icmpNo X1.here hx rfl (hb hby d22_11) rfl (own_tlt (a := (0 : Int32)) (b := (1 : Int32)) (by decide) (by decide) hc11_3).2.1 ?_
    refine XS.aloadN X1.here hx rfl (hb hby d22_14) rfl rfl ?_
    refine XS.iload X1.here hx rfl (hb hby d22_15) rfl ?_
    refine XS.aloadN X1.here hx rfl (hb hby d22_17) rfl rfl ?_
    refine XS.iloadN X1.here hx rfl (hb hby d22_18) rfl ?_
    refine X1.caload hx (j := (0 : Int32)) (v := (.int c0)) Ar5.1 (State.isArrayOf_alike hZ.alike Ar5.2.1) Ar5.2.2 hin5 hat5 (g := (mkF m 19 #[.val (.ref oc), .val (.int 0), .val (.int 1), .val (.ref ob), .val (.int 0)] [(.int 0), (.ref oc), (.int 0), (.ref ob)])) rfl rfl (hb hby d22_19) _ ?_
    refine st6 _ ?_
    refine XS.iinc X6.here hx rfl (hb hby d22_23) rfl (l' := #[.val (.ref oc), .val (.int 1), .val (.int 1), .val (.ref ob), .val (.int 0)]) rfl ?_
    refine XS.iinc X6.here hx rfl (hb hby d22_26) rfl (l' := #[.val (.ref oc), .val (.int 1), .val (.int 1), .val (.ref ob), .val (.int 1)]) rfl ?_
    refine XS.goto X6.here hx rfl (pc0 := 29) (pc' := 8) rfl (hb hby d22_29) (by decide) (by decide) ?_
    refine XS.iload X6.here hx rfl (hb hby d22_8) rfl ?_
    refine XS.iloadN X6.here hx rfl (hb hby d22_10) rfl ?_
    show Steps p.tables e below (T6.setTop (mkF m 11 #[.val (.ref oc), .val (.int 1), .val (.int 1), .val (.ref ob), .val (.int 1)] [(.int 1), (.int 1)])) _
    refine XS.icmpYes X6.here hx rfl (pc0 := 11) (pc' := 32) rfl (hb hby d22_11) rfl (own_flt (a := (1 : Int32)) (b := (1 : Int32)) (by decide) (by decide) hc11_9).2.1 (by decide) (by decide) ?_
    refine XS.aloadN X6.here hx rfl (hb hby d22_32) rfl rfl ?_
    jvm_step X6.here [X6.here.top, hx, (hb hby d22_33), X6.method', Bd.returns, Value.isRef, FieldType.isReference]
    first | (intro acts; rw [hr _ acts rfl rfl rfl]) | rw [hr _ _ rfl rfl rfl]
    exact Steps.refl _
  · show Q_tb1 Z _ _ _ _ _ h0 n0 _ T6.heap _
    have f10 := (((Keep.refl h0 []).trans K1 all0).trans K6 (allS (P := fun x => x ∈ [] ∨ h0.size ≤ x) (Or.inr sz_ob) all0))
    exact ⟨ob, kb, lo0, hi0, rfl, N6, f10, gb, sz_ob, Vb6, ql0, qh0⟩
theorem d8_0 : decode kc27 0 = .ok (.iconst 0, 1) := by decide +kernel
theorem d8_1 : decode kc27 1 = .ok (.istore 5, 2) := by decide +kernel
theorem d8_3 : decode kc27 3 = .ok (.iload 5, 2) := by decide +kernel
theorem d8_5 : decode kc27 5 = .ok (.iload 4, 2) := by decide +kernel
theorem d8_7 : decode kc27 7 = .ok (.if_icmp .ge 37, 3) := by decide +kernel
theorem d8_10 : decode kc27 10 = .ok (.aload_n 0, 1) := by decide +kernel
theorem d8_11 : decode kc27 11 = .ok (.iload_n 1, 1) := by decide +kernel
theorem d8_12 : decode kc27 12 = .ok (.caload, 1) := by decide +kernel
theorem d8_13 : decode kc27 13 = .ok (.istore 6, 2) := by decide +kernel
theorem d8_15 : decode kc27 15 = .ok (.iload 6, 2) := by decide +kernel
theorem d8_17 : decode kc27 17 = .ok (.sipush 255, 3) := by decide +kernel
theorem d8_20 : decode kc27 20 = .ok (.if_icmp .le 6, 3) := by decide +kernel
theorem d8_23 : decode kc27 23 = .ok (.iload 5, 2) := by decide +kernel
theorem d8_25 : decode kc27 25 = .ok (.ireturn, 1) := by decide +kernel
theorem d8_26 : decode kc27 26 = .ok (.aload_n 2, 1) := by decide +kernel
theorem d8_27 : decode kc27 27 = .ok (.iload_n 3, 1) := by decide +kernel
theorem d8_28 : decode kc27 28 = .ok (.iload 6, 2) := by decide +kernel
theorem d8_30 : decode kc27 30 = .ok (.i2b, 1) := by decide +kernel
theorem d8_31 : decode kc27 31 = .ok (.bastore, 1) := by decide +kernel
theorem d8_32 : decode kc27 32 = .ok (.iinc 1 1, 3) := by decide +kernel
theorem d8_35 : decode kc27 35 = .ok (.iinc 3 1, 3) := by decide +kernel
theorem d8_38 : decode kc27 38 = .ok (.iinc 5 1, 3) := by decide +kernel
theorem d8_41 : decode kc27 41 = .ok (.goto (-38), 3) := by decide +kernel
theorem d8_44 : decode kc27 44 = .ok (.iload 4, 2) := by decide +kernel
theorem d8_46 : decode kc27 46 = .ok (.ireturn, 1) := by decide +kernel
theorem ef_rm_cq1 (m : MethodId) (x0 : Addr) (x2 : Addr) : entryFrame m #[(.ref x0), (.int 0), (.ref x2), (.int 0), (.int 1)] 7 = mkF m 0 #[.val (.ref x0), .val (.int 0), .val (.ref x2), .val (.int 0), .val (.int 1), .unset, .unset] [] := by first | (simp [entryFrame, mkF, argsToLocals, Value.category]; done) | rfl
def Q_cq1 (Z : State) (oc : Addr) (ob : Addr) (kC : ClassId) (c0 : Int32) (kb : ClassId) (h0 : Heap) (n0 : Nat) (v : Option Value) (h : Heap) (L : List Loc) : Prop := Fr n0 L ∧ Keep h0 h [ob] ∧ ((v = some (.int 1) ∧ (c0.toInt ≤ 255) ∧ ∃ bb0 : Int32, Arv Z h ob kb .byte (1 : Int32) [(.int bb0)] (.int 0) ∧ bb0.toInt % 256 = c0.toInt) ∨ (v = some (.int 0) ∧ 255 < c0.toInt ∧ ∃ vs, Arv Z h ob kb .byte (1 : Int32) vs (.int 0)))
theorem rm_cq1 (l : Launch) (Z : State) (a0 : Array Value) (hw : ∀ d ∈ tables_1, d.before a0 Z = true) (ws : List Jvm.Cond) (oc : Addr) (ob : Addr) (kC : ClassId) (c0 : Int32) (kb : ClassId) (h0 : Heap) (n0 : Nat) (Z0 : n0 ≤ h0.size) (Vc : Arv Z h0 oc kC .char (1 : Int32) [(.int c0)] (.int 0)) (uc0 : 0 ≤ c0.toInt) (vc0 : c0.toInt < 65536) (Vb : Arv Z h0 ob kb .byte (1 : Int32) [(.int 0)] (.int 0)) (gb : n0 ≤ ob) (ncb : oc ≠ ob) :
    MetFree l yn27 (head1 (Jvm.Cond.code yn27 kc27 7 (some .int) :: ws) ⟨0, 0, 0, 0⟩) (fun a U => a = #[(.ref oc), (.int 0), (.ref ob), (.int 0), (.int 1)] ∧ Z.Warmed39 U.vm ∧ U.heap = h0) (fun _ _ _ _ _ => True) (fun _ U o U' => ∃ v L, o = .returned v ∧ Q_cq1 Z oc ob kC c0 kb h0 n0 v U'.heap L ∧ FrameEnd U o U' L 0 0) := by
  refine MetFree.of_bodySF (plainFor_of_name pn_3) hisR ?_
  intro p e s m args below meth c s₁ Bd hml0 hP hK
  obtain ⟨rfl, hZ, hh⟩ := hP
  have hx := Bd.exec
  have hby := Bd.bytes
  have hml : c.maxLocals = 7 := hml0
  have hown : s.vm.findClass "java/lang/StringUTF16" = some m.cls := findClass_of_methodNamed Bd.named
  have hnm := (name_of_methodNamed Bd.named Bd.method).1
  have X0 : Stand p l e ⟨0, 0, 0, 0⟩ s m #[(.ref oc), (.int 0), (.ref ob), (.int 0), (.int 1)] below meth c s₁ [] 0 0 := Stand.of_body Bd
  have e0 : s₁.heap = h0 := by rw [← hh, Bd.state]; rfl
  have N0 := Fr.nil n0
  obtain ⟨SS, hSS⟩ : ∃ S, S = s₁.setTop (entryFrame m #[(.ref oc), (.int 0), (.ref ob), (.int 0), (.int 1)] 7) := ⟨_, rfl⟩
  have pre0 : oP p e below (s₁.setTop (mkF m 0 #[.val (.ref oc), .val (.int 0), .val (.ref ob), .val (.int 0), .val (.int 1), .unset, .unset] [])) (SS) := by
    rw [hSS]; exact fun t k => castTop (ef_rm_cq1 m oc ob) k
  have hc7_1 : (0 : Int) < (1 : Int) := by decide
  obtain ⟨cl2, Ar2, q2, S2, M2, H2, G2⟩ := id Vc
  have hin2 : ¬ ((0 : Int32) < 0 ∨ cl2.slots.size ≤ ((0 : Int32)).toNatClampNeg) := inb_of S2 ⟨by decide, by decide⟩
  have hat2 : cl2.slots[((0 : Int32)).toNatClampNeg]? = some (.int c0) := Has.at H2 hin2 rfl
  have pre4 : oP p e below (s₁.setTop (mkF m 20 #[.val (.ref oc), .val (.int 0), .val (.ref ob), .val (.int 0), .val (.int 1), .val (.int 0), .val (.int c0)] [(.int 255), (.int c0)])) (SS) := fun t kt => by
    refine pre0 _ ?_
    refine XS.iconst X0.here hx rfl (hb hby d8_0) ?_
    refine XS.istore X0.here hx rfl (hb hby d8_1) rfl (l' := #[.val (.ref oc), .val (.int 0), .val (.ref ob), .val (.int 0), .val (.int 1), .val (.int 0), .unset]) rfl ?_
    refine XS.iload X0.here hx rfl (hb hby d8_3) rfl ?_
    refine XS.iload X0.here hx rfl (hb hby d8_5) rfl ?_
    refine XS.icmpNo X0.here hx rfl (hb hby d8_7) rfl (own_tlt (a := (0 : Int32)) (b := (1 : Int32)) (by decide) (by decide) hc7_1).2.1 ?_
    refine XS.aloadN X0.here hx rfl (hb hby d8_10) rfl rfl ?_
    refine XS.iloadN X0.here hx rfl (hb hby d8_11) rfl ?_
    refine X0.caload hx (j := (0 : Int32)) (v := (.int c0)) (by rw [e0]; exact Ar2.1) (State.isArrayOf_alike hZ.alike Ar2.2.1) Ar2.2.2 hin2 hat2 (g := (mkF m 12 #[.val (.ref oc), .val (.int 0), .val (.ref ob), .val (.int 0), .val (.int 1), .val (.int 0), .unset] [(.int 0), (.ref oc)])) rfl rfl (hb hby d8_12) _ ?_
    refine XS.istore X0.here hx rfl (hb hby d8_13) rfl (l' := #[.val (.ref oc), .val (.int 0), .val (.ref ob), .val (.int 0), .val (.int 1), .val (.int 0), .val (.int c0)]) rfl ?_
    refine XS.iload X0.here hx rfl (hb hby d8_15) rfl ?_
    refine XS.sipush X0.here hx rfl (hb hby d8_17) ?_
    exact kt
  by_cases hc20_3 : (255 : Int) < c0.toInt
  · subst hSS
    obtain ⟨fs, hr, q1, q2, q3, q4⟩ := X0.leave (v := some (.int 0)) (fun h => by rw [Bd.returns] at h; cases h)
    refine ⟨_, _, pre4 _ ?_, q1, q2, _, _, rfl, ?_, ⟨_, rfl⟩, q3, q4.mono (by decide) (by decide)⟩
    · refine XS.icmpNo X0.here hx rfl (hb hby d8_20) rfl (own_tlt (a := (255 : Int32)) (b := c0) (by decide) rfl hc20_3).2.2.2 ?_
      refine XS.iload X0.here hx rfl (hb hby d8_23) rfl ?_
      exact retI X0 hx Bd.returns (hb hby d8_25) hr
    · show Q_cq1 Z _ _ _ _ _ h0 n0 _ s₁.heap _
      rw [e0]
      exact ⟨N0, (Keep.refl h0 [ob]), Or.inr (⟨rfl, by omega, _, Vb⟩)⟩
  · obtain ⟨cl5, Ar5, q5, S5, M5, H5, G5⟩ := id Vb
    have hin5 : ¬ ((0 : Int32) < 0 ∨ cl5.slots.size ≤ ((0 : Int32)).toNatClampNeg) := inb_of S5 ⟨by decide, by decide⟩
    obtain ⟨T6, h6, X6, e6, W6, st6⟩ := stB X0 hx hZ e0 Ar5 (j := (0 : Int32)) hin5 (g := (mkF m 31 #[.val (.ref oc), .val (.int 0), .val (.ref ob), .val (.int 0), .val (.int 1), .val (.int 0), .val (.int c0)] [(.int (c0.toInt8.toInt32)), (.int 0), (.ref ob)])) rfl rfl (hb hby d8_31)
    have N6 := Fr.snoc X6 N0 gb
    have Zs7 : n0 ≤ h6.size := by rw [W6.size]; exact Z0
    have V6 : Arv Z h6 ob kb .byte (1 : Int32) [(.int (nar .byte (c0.toInt8.toInt32)))] (.int 0) := Arv.set Ar5 q5 S5 M5 H5 G5 (fits_nar_byte _) W6 0 rfl (Nat.le_of_ble_eq_true rfl)
    have hc7_8 : ¬ ((1 : Int) < (1 : Int)) := by decide
    subst hSS
    obtain ⟨fs, hr, q1, q2, q3, q4⟩ := X6.leave (v := some (.int 1)) (fun h => by rw [Bd.returns] at h; cases h)
    refine ⟨_, _, pre4 _ ?_, q1, q2, _, _, rfl, ?_, ⟨_, rfl⟩, q3, q4.mono (by decide) (by decide)⟩
    · refine XS.icmpYes X0.here hx rfl (pc0 := 20) (pc' := 26) rfl (hb hby d8_20) rfl (own_flt (a := (255 : Int32)) (b := c0) (by decide) rfl hc20_3).2.2.2 (by decide) (by decide) ?_
      refine XS.aloadN X0.here hx rfl (hb hby d8_26) rfl rfl ?_
      refine XS.iloadN X0.here hx rfl (hb hby d8_27) rfl ?_
      refine XS.iload X0.here hx rfl (hb hby d8_28) rfl ?_
      refine XS.i2b X0.here hx rfl (hb hby d8_30) rfl ?_
      refine st6 _ ?_
      refine XS.iinc X6.here hx rfl (hb hby d8_32) rfl (l' := #[.val (.ref oc), .val (.int 1), .val (.ref ob), .val (.int 0), .val (.int 1), .val (.int 0), .val (.int c0)]) rfl ?_
      refine XS.iinc X6.here hx rfl (hb hby d8_35) rfl (l' := #[.val (.ref oc), .val (.int 1), .val (.ref ob), .val (.int 1), .val (.int 1), .val (.int 0), .val (.int c0)]) rfl ?_
      show Steps p.tables e below (T6.setTop (mkF m 38 #[.val (.ref oc), .val (.int 1), .val (.ref ob), .val (.int 1), .val (.int 1), .val (.int 0), .val (.int c0)] [])) _
      refine XS.iinc X6.here hx rfl (hb hby d8_38) rfl (l' := #[.val (.ref oc), .val (.int 1), .val (.ref ob), .val (.int 1), .val (.int 1), .val (.int 1), .val (.int c0)]) rfl ?_
      refine XS.goto X6.here hx rfl (pc0 := 41) (pc' := 3) rfl (hb hby d8_41) (by decide) (by decide) ?_
      refine XS.iload X6.here hx rfl (hb hby d8_3) rfl ?_
      refine XS.iload X6.here hx rfl (hb hby d8_5) rfl ?_
      refine XS.icmpYes X6.here hx rfl (pc0 := 7) (pc' := 44) rfl (hb hby d8_7) rfl (own_flt (a := (1 : Int32)) (b := (1 : Int32)) (by decide) (by decide) hc7_8).2.1 (by decide) (by decide) ?_
      refine XS.iload X6.here hx rfl (hb hby d8_44) rfl ?_
      exact retI X6 hx Bd.returns (hb hby d8_46) hr
    · show Q_cq1 Z _ _ _ _ _ h0 n0 _ T6.heap _
      rw [e6]
      have f9 := ((Keep.refl h0 [ob]).wr W6 (Or.inl (List.mem_of_getElem? (i := 0) rfl)))
      exact ⟨N6, f9, Or.inl ⟨rfl, by omega, _, V6, own_b2 c0 uc0 (by omega)⟩⟩
theorem d7_0 : decode kc28 0 = .ok (.iload_n 2, 1) := by decide +kernel
theorem d7_1 : decode kc28 1 = .ok (.newarray .byte, 2) := by decide +kernel
theorem d7_3 : decode kc28 3 = .ok (.astore_n 3, 1) := by decide +kernel
theorem d7_4 : decode kc28 4 = .ok (.aload_n 0, 1) := by decide +kernel
theorem d7_5 : decode kc28 5 = .ok (.iload_n 1, 1) := by decide +kernel
theorem d7_6 : decode kc28 6 = .ok (.aload_n 3, 1) := by decide +kernel
theorem d7_7 : decode kc28 7 = .ok (.iconst 0, 1) := by decide +kernel
theorem d7_8 : decode kc28 8 = .ok (.iload_n 2, 1) := by decide +kernel
theorem d7_9 : decode kc28 9 = .ok (.invokestatic 115, 3) := by decide +kernel
theorem d7_12 : decode kc28 12 = .ok (.istore 4, 2) := by decide +kernel
theorem d7_14 : decode kc28 14 = .ok (.iload 4, 2) := by decide +kernel
theorem d7_16 : decode kc28 16 = .ok (.iload_n 2, 1) := by decide +kernel
theorem d7_17 : decode kc28 17 = .ok (.if_icmp .eq 40, 3) := by decide +kernel
theorem d7_20 : decode kc28 20 = .ok (.aload_n 0, 1) := by decide +kernel
theorem d7_21 : decode kc28 21 = .ok (.iload_n 1, 1) := by decide +kernel
theorem d7_22 : decode kc28 22 = .ok (.iload_n 2, 1) := by decide +kernel
theorem d7_23 : decode kc28 23 = .ok (.invokestatic 119, 3) := by decide +kernel
theorem d7_26 : decode kc28 26 = .ok (.astore 5, 2) := by decide +kernel
theorem d7_28 : decode kc28 28 = .ok (.aload 5, 2) := by decide +kernel
theorem d7_30 : decode kc28 30 = .ok (.iload 4, 2) := by decide +kernel
theorem d7_32 : decode kc28 32 = .ok (.invokestatic 71, 3) := by decide +kernel
theorem d7_35 : decode kc28 35 = .ok (.sipush 255, 3) := by decide +kernel
theorem d7_38 : decode kc28 38 = .ok (.if_icmp .gt 16, 3) := by decide +kernel
theorem d7_54 : decode kc28 54 = .ok (.aload 5, 2) := by decide +kernel
theorem d7_56 : decode kc28 56 = .ok (.areturn, 1) := by decide +kernel
theorem d7_57 : decode kc28 57 = .ok (.aload_n 3, 1) := by decide +kernel
theorem d7_58 : decode kc28 58 = .ok (.areturn, 1) := by decide +kernel
theorem ef_rm_cr1 (m : MethodId) (x0 : Addr) : entryFrame m #[(.ref x0), (.int 0), (.int 1)] 6 = mkF m 0 #[.val (.ref x0), .val (.int 0), .val (.int 1), .unset, .unset, .unset] [] := by first | (simp [entryFrame, mkF, argsToLocals, Value.category]; done) | rfl
theorem pd_16 : parseMethodDescriptor "([CI[BII)I" = some ⟨[(.array .char), .int, (.array .byte), .int, .int], some .int⟩ := by decide +kernel
theorem pd_17 : parseMethodDescriptor "([CII)[B" = some ⟨[(.array .char), .int, .int], some (.array .byte)⟩ := by decide +kernel
def Q_cr1 (Z : State) (oc : Addr) (vcs : Int32) (vf : Value) (kC : ClassId) (c0 : Int32) (h0 : Heap) (n0 : Nat) (v : Option Value) (h : Heap) (L : List Loc) : Prop := ∃ (ob : Addr) (kb : ClassId), v = some (.ref ob) ∧ Fr n0 L ∧ Keep h0 h [] ∧ n0 ≤ ob ∧ h0.size ≤ ob ∧ (((c0.toInt ≤ 255) ∧ ∃ bb0 : Int32, Arv Z h ob kb .byte (1 : Int32) [(.int bb0)] (.int 0) ∧ bb0.toInt % 256 = c0.toInt) ∨ (¬ (c0.toInt ≤ 255) ∧ ∃ lo0 hi0 : Int32, Arv Z h ob kb .byte (2 : Int32) [(.int lo0), (.int hi0)] (.int 0) ∧ lo0.toInt % 256 = c0.toInt % 256 ∧ hi0.toInt % 256 = c0.toInt / 256))
theorem rm_cr1 (l : Launch) (Z : State) (a0 : Array Value) (hw : ∀ d ∈ tables_1, d.before a0 Z = true) (ws : List Jvm.Cond) (oc : Addr) (vcs : Int32) (vf : Value) (kC : ClassId) (c0 : Int32) (h0 : Heap) (n0 : Nat) (Z0 : n0 ≤ h0.size) (Os : own_st Z h0 vcs vf) (Vc : Arv Z h0 oc kC .char (1 : Int32) [(.int c0)] (.int 0)) (uc0 : 0 ≤ c0.toInt) (vc0 : c0.toInt < 65536) :
    MetFree l yn28 (head1 (Jvm.Cond.code yn28 kc28 6 (some (.array .byte)) :: ws) ⟨3, 2, 3, 40⟩) (fun a U => a = #[(.ref oc), (.int 0), (.int 1)] ∧ Z.Warmed39 U.vm ∧ U.heap = h0) (fun _ _ _ _ _ => True) (fun _ U o U' => ∃ v L, o = .returned v ∧ Q_cr1 Z oc vcs vf kC c0 h0 n0 v U'.heap L ∧ FrameEnd U o U' L 2 3) := by
  refine MetFree.of_bodySF (plainFor_of_name pn_3) hisR ?_
  intro p e s m args below meth c s₁ Bd hml0 hP hK
  obtain ⟨rfl, hZ, hh⟩ := hP
  have hx := Bd.exec
  have hby := Bd.bytes
  have hml : c.maxLocals = 6 := hml0
  have hown : s.vm.findClass "java/lang/StringUTF16" = some m.cls := findClass_of_methodNamed Bd.named
  have hnm := (name_of_methodNamed Bd.named Bd.method).1
  have X0 : Stand p l e ⟨3, 2, 3, 40⟩ s m #[(.ref oc), (.int 0), (.int 1)] below meth c s₁ [] 0 0 := Stand.of_body Bd
  have e0 : s₁.heap = h0 := by rw [← hh, Bd.state]; rfl
  have N0 := Fr.nil n0
  obtain ⟨SS, hSS⟩ : ∃ S, S = s₁.setTop (entryFrame m #[(.ref oc), (.int 0), (.int 1)] 6) := ⟨_, rfl⟩
  have pre0 : oP p e below (s₁.setTop (mkF m 0 #[.val (.ref oc), .val (.int 0), .val (.int 1), .unset, .unset, .unset] [])) (SS) := by
    rw [hSS]; exact fun t k => castTop (ef_rm_cr1 m oc) k
  obtain ⟨T1, h1, k1, X1, e1, E1, A1, st1⟩ := newP X0 hx hZ (ow hw 20 rfl) e0 (g := (mkF m 1 #[.val (.ref oc), .val (.int 0), .val (.int 1), .unset, .unset, .unset] [(.int 1)])) rfl (hb hby d7_1) rfl (by decide) (cap := 1) (by decide) (by decide) (by decide) (by decide)
  obtain ⟨b1, g1⟩ : ∃ z, z = h0.size := ⟨_, rfl⟩
  have ne_oc_b1 : oc ≠ b1 := Nat.ne_of_lt (Nat.lt_of_lt_of_le Vc.lt (Nat.le_of_eq g1.symm))
  have g_b1 : n0 ≤ b1 := Nat.le_trans Z0 (Nat.le_of_eq g1.symm)
  have sz_b1 : h0.size ≤ b1 := Nat.le_trans (Keep.refl h0 []).1 (Nat.le_of_eq g1.symm)
  rw [← g1] at A1 st1
  have Zs2 : n0 ≤ h1.size := Nat.le_trans Z0 E1.1
  have V1 : Arv Z h1 b1 k1 .byte (1 : Int32) [(.int 0)] (.int 0) := (Arv.new A1 (by decide)).pad (pad_rep [] (.int 0) 1)
  have f4 := (Vc.ext E1)
  obtain ⟨_, _, ⟨T3, L3, k3, n3⟩, -, X3, ⟨Lc3, hQ3, l3, y3, z3⟩, st3⟩ := Jvm.LawKit.callS X1 hx (y := yn27) hown (mvT hZ (ow hw 41 rfl)) (mvT hZ (ow hw 42 rfl)) (mvT hZ (ow hw 39 rfl)) (mvT hZ (ow hw 43 rfl)) (by decide) (backOf (W := 0) (rm_cq1 l Z a0 hw [] oc b1 kC c0 k1 h1 n0 Zs2 f4 uc0 vc0 V1 g_b1 ne_oc_b1) hZ (ow hw 43 rfl) (ow hw 39 rfl) (by decide) (by decide)) (g := (mkF m 9 #[.val (.ref oc), .val (.int 0), .val (.int 1), .val (.ref b1), .unset, .unset] [(.int 1), (.int 0), (.ref b1), (.int 0), (.ref oc)])) rfl (by rw [hml]; rfl) (argsL := [(.ref oc), (.int 0), (.ref b1), (.int 0), (.int 1)]) (rest := []) (lenOf pd_16 rfl) rfl (by exact Nat.le_of_eq rfl) (hb hby d7_9) (fun _ _ => ⟨rfl, e1, (by decide : 1 + 0 ≤ _), (by decide : 1 + 0 ≤ _)⟩)
  dsimp only [Pt.U, Pt.locs, Pt.cells, Pt.slots] at X3 l3 y3 z3 st3 hQ3
  rw [l3, y3, z3] at X3
  obtain ⟨N3q, K3, hO3⟩ := hQ3
  have N3 := Fr.app N0 N3q
  have Zs5 : n0 ≤ T3.heap.size := Nat.le_trans Zs2 K3.1
  rcases hO3 with ⟨rfl, hall, bb0, VbL, qbb0⟩ | ⟨rfl, hbig, vsP, VbP⟩
  · have own_mk1 := True.intro
    have hc17_6 : (1 : Int) = (1 : Int) := by decide
    subst hSS
    obtain ⟨fs, hr, q1, q2, q3, q4⟩ := X3.leave (v := some (.ref b1)) (fun h => by rw [Bd.returns] at h; cases h)
    refine ⟨_, _, pre0 _ ?_, q1, q2, _, _, rfl, ?_, ⟨_, rfl⟩, q3, q4.mono (by decide) (by decide)⟩
    · refine XS.iloadN X0.here hx rfl (hb hby d7_0) rfl ?_
      refine st1 _ ?_
      refine XS.astoreN X1.here hx rfl (hb hby d7_3) rfl rfl (l' := #[.val (.ref oc), .val (.int 0), .val (.int 1), .val (.ref b1), .unset, .unset]) rfl ?_
      refine XS.aloadN X1.here hx rfl (hb hby d7_4) rfl rfl ?_
      refine XS.iloadN X1.here hx rfl (hb hby d7_5) rfl ?_
      refine XS.aloadN X1.here hx rfl (hb hby d7_6) rfl rfl ?_
      refine XS.iconst X1.here hx rfl (hb hby d7_7) ?_
      refine XS.iloadN X1.here hx rfl (hb hby d7_8) rfl ?_
      refine st3 _ ?_
      refine XS.istore X3.here hx rfl (hb hby d7_12) rfl (l' := #[.val (.ref oc), .val (.int 0), .val (.int 1), .val (.ref b1), .val (.int 1), .unset]) rfl ?_
      refine XS.iload X3.here hx rfl (hb hby d7_14) rfl ?_
      refine XS.iloadN X3.here hx rfl (hb hby d7_16) rfl ?_
      refine XS.icmpYes X3.here hx rfl (pc0 := 17) (pc' := 57) rfl (hb hby d7_17) rfl (own_teq (a := (1 : Int32)) (b := (1 : Int32)) (by decide) (by decide) hc17_6).1 (by decide) (by decide) ?_
      refine XS.aloadN X3.here hx rfl (hb hby d7_57) rfl rfl ?_
      jvm_step X3.here [X3.here.top, hx, (hb hby d7_58), X3.method', Bd.returns, Value.isRef, FieldType.isReference]
      first | (intro acts; rw [hr _ acts rfl rfl rfl]) | rw [hr _ _ rfl rfl rfl]
      exact Steps.refl _
    · show Q_cr1 Z _ _ _ _ _ h0 n0 _ T3.heap _
      have f7 := (((Keep.refl h0 []).ext E1).trans K3 (allS (P := fun x => x ∈ [] ∨ h0.size ≤ x) (Or.inr sz_b1) all0))
      exact ⟨b1, _, rfl, N3, f7, g_b1, sz_b1, Or.inl ⟨hall, bb0, VbL, qbb0⟩⟩
  · have own_mk0 := True.intro
    have hc17_8 : ¬ ((0 : Int) = (1 : Int)) := by decide
    have f10 := (f4.keep K3 (ninS ne_oc_b1 nin0))
    have f11 := (((Keep.refl h0 []).ext E1).trans K3 (allS (P := fun x => x ∈ [] ∨ h0.size ≤ x) (Or.inr sz_b1) all0))
    have os12 := (own_st_keep (own_st_ext Os E1) K3 (nsS V1.nostat ns0))
    obtain ⟨_, _, ⟨T9, L9, k9, n9⟩, -, X9, ⟨Lc9, hQ9, l9, y9, z9⟩, st9⟩ := Jvm.LawKit.callS X3 hx (y := yn26) hown (mvT hZ (ow hw 100 rfl)) (mvT hZ (ow hw 101 rfl)) (mvT hZ (ow hw 39 rfl)) (mvT hZ (ow hw 102 rfl)) (by decide) (backOf (W := 0) (rm_tb1 l Z a0 hw [] oc vcs vf kC c0 T3.heap n0 Zs5 os12 f10 uc0 vc0) hZ (ow hw 102 rfl) (ow hw 39 rfl) (by decide) (by decide)) (g := (mkF m 23 #[.val (.ref oc), .val (.int 0), .val (.int 1), .val (.ref b1), .val (.int 0), .unset] [(.int 1), (.int 0), (.ref oc)])) rfl (by rw [hml]; rfl) (argsL := [(.ref oc), (.int 0), (.int 1)]) (rest := []) (lenOf pd_17 rfl) rfl (by exact Nat.le_of_eq rfl) (hb hby d7_23) (fun _ _ => ⟨rfl, rfl, (by decide : 1 + 1 ≤ _), (by decide : 1 + 2 ≤ _)⟩)
    dsimp only [Pt.U, Pt.locs, Pt.cells, Pt.slots] at X9 l9 y9 z9 st9 hQ9
    rw [l9, y9, z9] at X9
    obtain ⟨ou, ku, lo0, hi0, rfl, N9q, K9, gu, szu, Vu9, qlo0, qhi0⟩ := hQ9
    have N9 := Fr.app N3 N9q
    have Zs13 : n0 ≤ T9.heap.size := Nat.le_trans Zs5 K9.1
    have ne_oc_ou : oc ≠ ou := Nat.ne_of_lt (Nat.lt_of_lt_of_le f10.lt szu)
    have ne_b1_ou : b1 ≠ ou := Nat.ne_of_lt (Nat.lt_of_lt_of_le VbP.lt szu)
    have sz_ou : h0.size ≤ ou := Nat.le_trans f11.1 szu
    have os15 := (own_st_keep os12 K9 ns0)
    obtain ⟨_, _, ⟨T14, L14, k14, n14⟩, -, X14, ⟨Lc14, hQ14, l14, y14, z14⟩, st14⟩ := Jvm.LawKit.callS X9 hx (y := yn7) hown (mvT hZ (ow hw 116 rfl)) (mvT hZ (ow hw 117 rfl)) (mvT hZ (ow hw 39 rfl)) (mvT hZ (ow hw 118 rfl)) (by decide) (backOf (W := 0) (rm_gc l Z a0 hw [] ou (0 : Int32) vcs vf ku (2 : Int32) [(.int lo0), (.int hi0)] lo0 hi0 0 T9.heap n0 Zs13 os15 Vu9 (by decide) (by decide) (by decide) rfl rfl) hZ (ow hw 118 rfl) (ow hw 39 rfl) (by decide) (by decide)) (g := (mkF m 32 #[.val (.ref oc), .val (.int 0), .val (.int 1), .val (.ref b1), .val (.int 0), .val (.ref ou)] [(.int 0), (.ref ou)])) rfl (by rw [hml]; rfl) (argsL := [(.ref ou), (.int 0)]) (rest := []) (lenOf pd_5 rfl) rfl (by exact Nat.le_of_eq rfl) (hb hby d7_32) (fun _ _ => ⟨rfl, rfl, (by decide : 2 + 0 ≤ _), (by decide : 3 + 0 ≤ _)⟩)
    dsimp only [Pt.U, Pt.locs, Pt.cells, Pt.slots] at X14 l14 y14 z14 st14 hQ14
    rw [l14, y14, z14] at X14
    obtain ⟨zg, rfl, hzg, N14q, e14⟩ := hQ14
    have N14 := Fr.app N9 N14q
    have hc38_16 : (255 : Int) < zg.toInt := by omega
    subst hSS
    obtain ⟨fs, hr, q1, q2, q3, q4⟩ := X14.leave (v := some (.ref ou)) (fun h => by rw [Bd.returns] at h; cases h)
    refine ⟨_, _, pre0 _ ?_, q1, q2, _, _, rfl, ?_, ⟨_, rfl⟩, q3, q4.mono (by decide) (by decide)⟩
    · refine XS.iloadN X0.here hx rfl (hb hby d7_0) rfl ?_
      refine st1 _ ?_
      refine XS.astoreN X1.here hx rfl (hb hby d7_3) rfl rfl (l' := #[.val (.ref oc), .val (.int 0), .val (.int 1), .val (.ref b1), .unset, .unset]) rfl ?_
      refine XS.aloadN X1.here hx rfl (hb hby d7_4) rfl rfl ?_
      refine XS.iloadN X1.here hx rfl (hb hby d7_5) rfl ?_
      refine XS.aloadN X1.here hx rfl (hb hby d7_6) rfl rfl ?_
      refine XS.iconst X1.here hx rfl (hb hby d7_7) ?_
      refine XS.iloadN X1.here hx rfl (hb hby d7_8) rfl ?_
      refine st3 _ ?_
      refine XS.istore X3.here hx rfl (hb hby d7_12) rfl (l' := #[.val (.ref oc), .val (.int 0), .val (.int 1), .val (.ref b1), .val (.int 0), .unset]) rfl ?_
      refine XS.iload X3.here hx rfl (hb hby d7_14) rfl ?_
      refine XS.iloadN X3.here hx rfl (hb hby d7_16) rfl ?_
      refine XS.icmpNo X3.here hx rfl (hb hby d7_17) rfl (own_feq (a := (0 : Int32)) (b := (1 : Int32)) (by decide) (by decide) hc17_8).1 ?_
      refine XS.aloadN X3.here hx rfl (hb hby d7_20) rfl rfl ?_
      refine XS.iloadN X3.here hx rfl (hb hby d7_21) rfl ?_
      refine XS.iloadN X3.here hx rfl (hb hby d7_22) rfl ?_
      refine st9 _ ?_
      refine XS.astore X9.here hx rfl (hb hby d7_26) rfl rfl (l' := #[.val (.ref oc), .val (.int 0), .val (.int 1), .val (.ref b1), .val (.int 0), .val (.ref ou)]) rfl ?_
      refine XS.aload X9.here hx rfl (hb hby d7_28) rfl rfl ?_
      show Steps p.tables e below (T9.setTop (mkF m 30 #[.val (.ref oc), .val (.int 0), .val (.int 1), .val (.ref b1), .val (.int 0), .val (.ref ou)] [(.ref ou)])) _
      refine XS.iload X9.here hx rfl (hb hby d7_30) rfl ?_
      refine st14 _ ?_
      refine XS.sipush X14.here hx rfl (hb hby d7_35) ?_
      refine XS.icmpYes X14.here hx rfl (pc0 := 38) (pc' := 54) rfl (hb hby d7_38) rfl (own_tlt (a := (255 : Int32)) (b := zg) (by decide) rfl hc38_16).2.2.1 (by decide) (by decide) ?_
      refine XS.aload X14.here hx rfl (hb hby d7_54) rfl rfl ?_
      jvm_step X14.here [X14.here.top, hx, (hb hby d7_56), X14.method', Bd.returns, Value.isRef, FieldType.isReference]
      first | (intro acts; rw [hr _ acts rfl rfl rfl]) | rw [hr _ _ rfl rfl rfl]
      exact Steps.refl _
    · show Q_cr1 Z _ _ _ _ _ h0 n0 _ T14.heap _
      rw [e14]
      have f17 := (f11.trans K9 all0)
      exact ⟨ou, _, rfl, N14, f17, gu, sz_ou, Or.inr ⟨fun q => by omega, lo0, hi0, Vu9, qlo0, qhi0⟩⟩
def own_cf (k n m : Int32) : Prop := (k = 0 ∧ n = m) ∨ (k = 1 ∧ ((n = 1 ∧ m = 2) ∨ (n = 2 ∧ m = 4) ∨ (n = 3 ∧ m = 6) ∨ (n = 4 ∧ m = 8)))
theorem own_cfz {k n m : Int32} (h : own_cf k n m) : nar .byte (((n - m).toUInt32 >>> ((31 : Int32) &&& 31).toUInt32).toInt32.toInt8.toInt32) = k := by
  rcases h with ⟨rfl, rfl⟩ | ⟨rfl, ⟨rfl, rfl⟩ | ⟨rfl, rfl⟩ | ⟨rfl, rfl⟩ | ⟨rfl, rfl⟩⟩
  · rw [Int32.sub_self]; decide
  all_goals decide
theorem d9_0 : decode kc29 0 = .ok (.iload_n 1, 1) := by decide +kernel
theorem d9_1 : decode kc29 1 = .ok (.aload_n 0, 1) := by decide +kernel
theorem d9_2 : decode kc29 2 = .ok (.arraylength, 1) := by decide +kernel
theorem d9_3 : decode kc29 3 = .ok (.isub, 1) := by decide +kernel
theorem d9_4 : decode kc29 4 = .ok (.bipush 31, 2) := by decide +kernel
theorem d9_6 : decode kc29 6 = .ok (.iushr, 1) := by decide +kernel
theorem d9_7 : decode kc29 7 = .ok (.i2b, 1) := by decide +kernel
theorem d9_8 : decode kc29 8 = .ok (.ireturn, 1) := by decide +kernel
theorem ef_rm_cg (m : MethodId) (x0 : Addr) (x1 : Int32) : entryFrame m #[(.ref x0), (.int x1)] 2 = mkF m 0 #[.val (.ref x0), .val (.int x1)] [] := by first | (simp [entryFrame, mkF, argsToLocals, Value.category]; done) | rfl
def Q_cg (Z : State) (ob : Addr) (vn : Int32) (vk : Int32) (zl : Int32) (kb : ClassId) (vs : List Value) (h0 : Heap) (n0 : Nat) (v : Option Value) (h : Heap) (L : List Loc) : Prop := ∃ z : Int32, v = some (.int z) ∧ (z = vk) ∧ Fr n0 L ∧ h = h0
theorem rm_cg (l : Launch) (Z : State) (a0 : Array Value) (hw : ∀ d ∈ tables_1, d.before a0 Z = true) (ws : List Jvm.Cond) (ob : Addr) (vn : Int32) (vk : Int32) (zl : Int32) (kb : ClassId) (vs : List Value) (h0 : Heap) (n0 : Nat) (Z0 : n0 ≤ h0.size) (Vb : Arv Z h0 ob kb .byte zl vs (.int 0)) (hcf : own_cf vk vn zl) :
    MetFree l yn29 (head1 (Jvm.Cond.code yn29 kc29 2 (some .byte) :: ws) ⟨0, 0, 0, 0⟩) (fun a U => a = #[(.ref ob), (.int vn)] ∧ Z.Warmed39 U.vm ∧ U.heap = h0) (fun _ _ _ _ _ => True) (fun _ U o U' => ∃ v L, o = .returned v ∧ Q_cg Z ob vn vk zl kb vs h0 n0 v U'.heap L ∧ FrameEnd U o U' L 0 0) := by
  refine MetFree.of_bodySF (plainFor_of_name pn_3) hisR ?_
  intro p e s m args below meth c s₁ Bd hml0 hP hK
  obtain ⟨rfl, hZ, hh⟩ := hP
  have hx := Bd.exec
  have hby := Bd.bytes
  have hml : c.maxLocals = 2 := hml0
  have hown : s.vm.findClass "java/lang/StringUTF16" = some m.cls := findClass_of_methodNamed Bd.named
  have hnm := (name_of_methodNamed Bd.named Bd.method).1
  have X0 : Stand p l e ⟨0, 0, 0, 0⟩ s m #[(.ref ob), (.int vn)] below meth c s₁ [] 0 0 := Stand.of_body Bd
  have e0 : s₁.heap = h0 := by rw [← hh, Bd.state]; rfl
  have N0 := Fr.nil n0
  obtain ⟨SS, hSS⟩ : ∃ S, S = s₁.setTop (entryFrame m #[(.ref ob), (.int vn)] 2) := ⟨_, rfl⟩
  have pre0 : oP p e below (s₁.setTop (mkF m 0 #[.val (.ref ob), .val (.int vn)] [])) (SS) := by
    rw [hSS]; exact fun t k => castTop (ef_rm_cg m ob vn) k
  obtain ⟨cl1, Ar1, q1, S1, M1, H1, G1⟩ := id Vb
  subst hSS
  obtain ⟨fs, hr, q1, q2, q3, q4⟩ := X0.leave (v := some (.int (nar .byte ((((vn - zl).toUInt32 >>> ((31 : Int32) &&& 31).toUInt32).toInt32).toInt8.toInt32)))) (fun h => by rw [Bd.returns] at h; cases h)
  refine ⟨_, _, pre0 _ ?_, q1, q2, _, _, rfl, ?_, ⟨_, rfl⟩, q3, q4.mono (by decide) (by decide)⟩
  · refine XS.iloadN X0.here hx rfl (hb hby d9_0) rfl ?_
    refine XS.aloadN X0.here hx rfl (hb hby d9_1) rfl rfl ?_
    refine X0.arraylength hx (by rw [e0]; exact Ar1.1) (State.isArrayOf_alike hZ.alike Ar1.2.1) (g := (mkF m 2 #[.val (.ref ob), .val (.int vn)] [(.ref ob), (.int vn)])) rfl rfl (hb hby d9_2) _ ?_
    rw [len_of S1 M1]
    refine XS.isub X0.here hx rfl (hb hby d9_3) rfl ?_
    refine XS.bipush X0.here hx rfl (hb hby d9_4) ?_
    refine XS.iushr X0.here hx rfl (hb hby d9_6) rfl ?_
    refine XS.i2b X0.here hx rfl (hb hby d9_7) rfl ?_
    exact retN X0 hx (t := .byte) Bd.returns (by simp) (hb hby d9_8) hr
  · show Q_cg Z _ _ _ _ _ _ h0 n0 _ s₁.heap _
    rw [e0]
    exact ⟨_, rfl, own_cfz hcf, N0, rfl⟩
theorem d3_0 : decode kc30 0 = .ok (.aload_n 0, 1) := by decide +kernel
theorem d3_1 : decode kc30 1 = .ok (.invokespecial 1, 3) := by decide +kernel
theorem d3_4 : decode kc30 4 = .ok (.iload_n 3, 1) := by decide +kernel
theorem d3_5 : decode kc30 5 = .ok (.ifCond .ne 22, 3) := by decide +kernel
theorem d3_27 : decode kc30 27 = .ok (.getstatic 38, 3) := by decide +kernel
theorem d3_30 : decode kc30 30 = .ok (.ifCond .eq 28, 3) := by decide +kernel
theorem d3_33 : decode kc30 33 = .ok (.aload_n 1, 1) := by decide +kernel
theorem d3_34 : decode kc30 34 = .ok (.iload_n 2, 1) := by decide +kernel
theorem d3_35 : decode kc30 35 = .ok (.iload_n 3, 1) := by decide +kernel
theorem d3_36 : decode kc30 36 = .ok (.invokestatic 177, 3) := by decide +kernel
theorem d3_39 : decode kc30 39 = .ok (.astore 5, 2) := by decide +kernel
theorem d3_41 : decode kc30 41 = .ok (.aload_n 0, 1) := by decide +kernel
theorem d3_42 : decode kc30 42 = .ok (.aload 5, 2) := by decide +kernel
theorem d3_44 : decode kc30 44 = .ok (.iload_n 3, 1) := by decide +kernel
theorem d3_45 : decode kc30 45 = .ok (.invokestatic 47, 3) := by decide +kernel
theorem d3_48 : decode kc30 48 = .ok (.putfield 15, 3) := by decide +kernel
theorem d3_51 : decode kc30 51 = .ok (.aload_n 0, 1) := by decide +kernel
theorem d3_52 : decode kc30 52 = .ok (.aload 5, 2) := by decide +kernel
theorem d3_54 : decode kc30 54 = .ok (.putfield 9, 3) := by decide +kernel
theorem d3_57 : decode kc30 57 = .ok (.return_, 1) := by decide +kernel
theorem ef_rm_iw1 (m : MethodId) (x0 : Addr) (x1 : Addr) : entryFrame m #[(.ref x0), (.ref x1), (.int 0), (.int 1), .null] 6 = mkF m 0 #[.val (.ref x0), .val (.ref x1), .val (.int 0), .val (.int 1), .val .null, .unset] [] := by first | (simp [entryFrame, mkF, argsToLocals, Value.category]; done) | rfl
theorem pd_18 : parseMethodDescriptor "([BI)B" = some ⟨[(.array .byte), .int], some .byte⟩ := by decide +kernel
def Q_iw1 (Z : State) (oa : Addr) (oc : Addr) (vcs : Int32) (vf : Value) (kC : ClassId) (c0 : Int32) (h0 : Heap) (n0 : Nat) (v : Option Value) (h : Heap) (L : List Loc) : Prop := v = none ∧ Fr n0 L ∧ Keep h0 h [oa] ∧ Exa Z h oa "java/lang/String" ∧ ∃ (ob : Addr) (kb : ClassId), n0 ≤ ob ∧ h0.size ≤ ob ∧ Fld Z h oa "java/lang/String" "value" "[B" (.ref ob) ∧ ((Fld Z h oa "java/lang/String" "coder" "B" (.int 0) ∧ ((c0.toInt ≤ 255) ∧ ∃ bb0 : Int32, Arv Z h ob kb .byte (1 : Int32) [(.int bb0)] (.int 0) ∧ bb0.toInt % 256 = c0.toInt)) ∨ (Fld Z h oa "java/lang/String" "coder" "B" (.int 1) ∧ (¬ (c0.toInt ≤ 255) ∧ ∃ lo0 hi0 : Int32, Arv Z h ob kb .byte (2 : Int32) [(.int lo0), (.int hi0)] (.int 0) ∧ lo0.toInt % 256 = c0.toInt % 256 ∧ hi0.toInt % 256 = c0.toInt / 256)))
theorem rm_iw1 (l : Launch) (Z : State) (a0 : Array Value) (hw : ∀ d ∈ tables_1, d.before a0 Z = true) (ws : List Jvm.Cond) (oa : Addr) (oc : Addr) (vcs : Int32) (vf : Value) (kC : ClassId) (c0 : Int32) (h0 : Heap) (n0 : Nat) (Z0 : n0 ≤ h0.size) (Os : own_st Z h0 vcs vf) (Es : Exa Z h0 oa "java/lang/String") (Fc : Fld Z h0 oa "java/lang/String" "coder" "B" (.int 0)) (Fv : Fld Z h0 oa "java/lang/String" "value" "[B" .null) (ga : n0 ≤ oa) (nac : oa ≠ oc) (Vc : Arv Z h0 oc kC .char (1 : Int32) [(.int c0)] (.int 0)) (uc0 : 0 ≤ c0.toInt) (vc0 : c0.toInt < 65536) :
    MetFree l yn30 (head1 (Jvm.Cond.code yn30 kc30 6 none :: ws) ⟨4, 2, 3, 57⟩) (fun a U => a = #[(.ref oa), (.ref oc), (.int 0), (.int 1), .null] ∧ Z.Warmed39 U.vm ∧ U.heap = h0) (fun _ _ _ _ _ => True) (fun _ U o U' => ∃ v L, o = .returned v ∧ Q_iw1 Z oa oc vcs vf kC c0 h0 n0 v U'.heap L ∧ FrameEnd U o U' L 2 3) := by
  refine MetFree.of_bodySF (plainFor_of_name pn_1) hisR ?_
  intro p e s m args below meth c s₁ Bd hml0 hP hK
  obtain ⟨rfl, hZ, hh⟩ := hP
  have hx := Bd.exec
  have hby := Bd.bytes
  have hml : c.maxLocals = 6 := hml0
  have hown : s.vm.findClass "java/lang/String" = some m.cls := findClass_of_methodNamed Bd.named
  have hnm := (name_of_methodNamed Bd.named Bd.method).1
  have X0 : Stand p l e ⟨4, 2, 3, 57⟩ s m #[(.ref oa), (.ref oc), (.int 0), (.int 1), .null] below meth c s₁ [] 0 0 := Stand.of_body Bd
  have e0 : s₁.heap = h0 := by rw [← hh, Bd.state]; rfl
  have N0 := Fr.nil n0
  obtain ⟨SS, hSS⟩ : ∃ S, S = s₁.setTop (entryFrame m #[(.ref oa), (.ref oc), (.int 0), (.int 1), .null] 6) := ⟨_, rfl⟩
  have pre0 : oP p e below (s₁.setTop (mkF m 0 #[.val (.ref oa), .val (.ref oc), .val (.int 0), .val (.int 1), .val .null, .unset] [])) (SS) := by
    rw [hSS]; exact fun t k => castTop (ef_rm_iw1 m oa oc) k
  obtain ⟨T1, X1, e1, st1⟩ := initO X0 hx hZ hown (ow hw 16 rfl) (ow hw 17 rfl) (ow hw 18 rfl) e0 (g := (mkF m 1 #[.val (.ref oa), .val (.ref oc), .val (.int 0), .val (.int 1), .val .null, .unset] [(.ref oa)])) rfl (by rw [hml]; rfl) rfl (hb hby d3_1) (by decide) (W := 0) (by exact Nat.le_of_eq rfl) (by decide)
  have hc5_2 : ¬ ((1 : Int) = (0 : Int)) := by decide
  obtain ⟨T3, X3, e3, st3⟩ := getS2 X1 hx hZ hown (host := "") (Or.inl (ow hw 36 rfl)) Via.refl e1 Os.1 (g := (mkF m 27 #[.val (.ref oa), .val (.ref oc), .val (.int 0), .val (.int 1), .val .null, .unset] [])) rfl (hb hby d3_27)
  have hc30_4 : ¬ (vcs.toInt = (0 : Int)) := by (have q := Os.2.1; omega)
  obtain ⟨_, _, ⟨T5, L5, k5, n5⟩, -, X5, ⟨Lc5, hQ5, l5, y5, z5⟩, st5⟩ := Jvm.LawKit.callS X3 hx (y := yn28) hown (mvT hZ (ow hw 37 rfl)) (mvT hZ (ow hw 38 rfl)) (mvT hZ (ow hw 39 rfl)) (mvT hZ (ow hw 40 rfl)) (by decide) (backOf (W := 0) (rm_cr1 l Z a0 hw [] oc vcs vf kC c0 h0 n0 Z0 Os Vc uc0 vc0) hZ (ow hw 40 rfl) (ow hw 39 rfl) (by decide) (by decide)) (g := (mkF m 36 #[.val (.ref oa), .val (.ref oc), .val (.int 0), .val (.int 1), .val .null, .unset] [(.int 1), (.int 0), (.ref oc)])) rfl (by rw [hml]; rfl) (argsL := [(.ref oc), (.int 0), (.int 1)]) (rest := []) (lenOf pd_17 rfl) rfl (by exact Nat.le_of_eq rfl) (hb hby d3_36) (fun _ _ => ⟨rfl, e3, (by decide : 0 + 2 ≤ _), (by decide : 0 + 3 ≤ _)⟩)
  dsimp only [Pt.U, Pt.locs, Pt.cells, Pt.slots] at X5 l5 y5 z5 st5 hQ5
  rw [l5, y5, z5] at X5
  obtain ⟨ob, kb, rfl, N5q, K5, gb, szb, hO5⟩ := hQ5
  have N5 := Fr.app N0 N5q
  have Zs6 : n0 ≤ T5.heap.size := Nat.le_trans Z0 K5.1
  have ne_oa_ob : oa ≠ ob := Nat.ne_of_lt (Nat.lt_of_lt_of_le Es.lt szb)
  have ne_oc_ob : oc ≠ ob := Nat.ne_of_lt (Nat.lt_of_lt_of_le Vc.lt szb)
  have sz_ob : h0.size ≤ ob := Nat.le_trans (Keep.refl h0 [oa]).1 szb
  have pre7 : oP p e below (T5.setTop (mkF m 39 #[.val (.ref oa), .val (.ref oc), .val (.int 0), .val (.int 1), .val .null, .unset] [(.ref ob)])) (SS) := fun t kt => by
    refine pre0 _ ?_
    refine XS.aloadN X0.here hx rfl (hb hby d3_0) rfl rfl ?_
    refine st1 _ ?_
    refine XS.iloadN X1.here hx rfl (hb hby d3_4) rfl ?_
    refine XS.ifYes X1.here hx rfl (pc0 := 5) (pc' := 27) rfl (hb hby d3_5) rfl (own_if (own_feq (a := (1 : Int32)) (b := (0 : Int32)) (by decide) (by decide) hc5_2).2) (by decide) (by decide) ?_
    refine st3 _ ?_
    refine XS.ifNo X3.here hx rfl (hb hby d3_30) rfl (own_if (own_feq (a := vcs) (b := (0 : Int32)) rfl (by decide) hc30_4).1) ?_
    refine XS.aloadN X3.here hx rfl (hb hby d3_33) rfl rfl ?_
    refine XS.iloadN X3.here hx rfl (hb hby d3_34) rfl ?_
    refine XS.iloadN X3.here hx rfl (hb hby d3_35) rfl ?_
    refine st5 _ ?_
    exact kt
  rcases hO5 with ⟨hall, bb0, VbL, qbb0⟩ | ⟨hall, lo0, hi0, VbU, qlo0, qhi0⟩
  · have own_mL := True.intro
    obtain ⟨_, _, ⟨T8, L8, k8, n8⟩, -, X8, ⟨Lc8, hQ8, l8, y8, z8⟩, st8⟩ := Jvm.LawKit.callS X5 hx (y := yn29) hown (mvT hZ (ow hw 44 rfl)) (mvT hZ (ow hw 45 rfl)) (mvT hZ (ow hw 39 rfl)) (mvT hZ (ow hw 46 rfl)) (by decide) (backOf (W := 1) (rm_cg l Z a0 hw [] ob (1 : Int32) (0 : Int32) (1 : Int32) kb [(.int bb0)] T5.heap n0 Zs6 VbL (Or.inl ⟨rfl, rfl⟩)) hZ (ow hw 46 rfl) (ow hw 39 rfl) (by decide) (by decide)) (g := (mkF m 45 #[.val (.ref oa), .val (.ref oc), .val (.int 0), .val (.int 1), .val .null, .val (.ref ob)] [(.int 1), (.ref ob), (.ref oa)])) rfl (by rw [hml]; rfl) (argsL := [(.ref ob), (.int 1)]) (rest := [(.ref oa)]) (lenOf pd_18 rfl) rfl (by exact Nat.le_of_eq rfl) (hb hby d3_45) (fun _ _ => ⟨rfl, rfl, (by decide : 2 + 0 ≤ _), (by decide : 3 + 0 ≤ _)⟩)
    dsimp only [Pt.U, Pt.locs, Pt.cells, Pt.slots] at X8 l8 y8 z8 st8 hQ8
    rw [l8, y8, z8] at X8
    obtain ⟨zf, rfl, hzf, N8q, e8⟩ := hQ8
    have N8 := Fr.app N5 N8q
    have pre9 : oP p e below (T8.setTop (mkF m 48 #[.val (.ref oa), .val (.ref oc), .val (.int 0), .val (.int 1), .val .null, .val (.ref ob)] [(.int zf), (.ref oa)])) (SS) := fun t kt => by
      refine pre7 _ ?_
      refine XS.astore X5.here hx rfl (hb hby d3_39) rfl rfl (l' := #[.val (.ref oa), .val (.ref oc), .val (.int 0), .val (.int 1), .val .null, .val (.ref ob)]) rfl ?_
      refine XS.aloadN X5.here hx rfl (hb hby d3_41) rfl rfl ?_
      refine XS.aload X5.here hx rfl (hb hby d3_42) rfl rfl ?_
      refine XS.iloadN X5.here hx rfl (hb hby d3_44) rfl ?_
      refine st8 _ ?_
      exact kt
    subst hzf
    have pre10 : oP p e below (T8.setTop (mkF m 48 #[.val (.ref oa), .val (.ref oc), .val (.int 0), .val (.int 1), .val .null, .val (.ref ob)] [(.int 0), (.ref oa)])) (SS) := pre9
    have f11 := (Fc.keep K5 nin0)
    have f12 := (Es.keep K5)
    obtain ⟨T13, h13, X13, e13, W13, st13⟩ := putFN X8 hx hZ hown (ow hw 26 rfl) Via.refl e8 f11 f12 (Or.inr ⟨(ow hw 22 rfl), rfl, hnm⟩) (ow hw 7 rfl) (ty := .byte) (v' := (.int 0)) (by decide) rfl rfl (g := (mkF m 48 #[.val (.ref oa), .val (.ref oc), .val (.int 0), .val (.int 1), .val .null, .val (.ref ob)] [(.int 0), (.ref oa)])) rfl rfl (hb hby d3_48)
    have N13 := Fr.snoc X13 N8 ga
    have Zs14 : n0 ≤ h13.size := by rw [W13.size]; exact Zs6
    have Fw13 := f11.same W13
    have f15 := ((Fv.keep K5 nin0).other W13 (Or.inr (slot_ne (Or.inr (ow hw 21 rfl)) (Or.inr (ow hw 22 rfl)) (by decide) (t := (.array .byte)) (t' := .byte) (by decide) (by decide))))
    have f16 := (f12.wr W13)
    obtain ⟨T17, h17, X17, e17, W17, st17⟩ := putF X13 hx hZ hown (host := "") (Or.inl (ow hw 25 rfl)) Via.refl e13 f15 f16 (Or.inr ⟨(ow hw 21 rfl), rfl, hnm⟩) (ow hw 7 rfl) (ty := (.array .byte)) (by decide) rfl rfl (g := (mkF m 54 #[.val (.ref oa), .val (.ref oc), .val (.int 0), .val (.int 1), .val .null, .val (.ref ob)] [(.ref ob), (.ref oa)])) rfl rfl (hb hby d3_54)
    have N17 := Fr.snoc X17 N13 ga
    have Zs18 : n0 ≤ h17.size := by rw [W17.size]; exact Zs14
    have Fw17 := f15.same W17
    subst hSS
    obtain ⟨fs, hr, q1, q2, q3, q4⟩ := X17.leave (v := none) (fun _ => rfl)
    refine ⟨_, _, pre10 _ ?_, q1, q2, _, _, rfl, ?_, ⟨_, rfl⟩, q3, q4.mono (by decide) (by decide)⟩
    · refine st13 _ ?_
      refine XS.aloadN X13.here hx rfl (hb hby d3_51) rfl rfl ?_
      refine XS.aload X13.here hx rfl (hb hby d3_52) rfl rfl ?_
      refine st17 _ ?_
      show Steps p.tables e below (T17.setTop (mkF m 57 #[.val (.ref oa), .val (.ref oc), .val (.int 0), .val (.int 1), .val .null, .val (.ref ob)] [])) _
      exact X17.returnOut hx Bd.returns (hb hby d3_57) hr
    · show Q_iw1 Z _ _ _ _ _ _ h0 n0 _ T17.heap _
      rw [e17]
      have f19 := (Fw13.other W17 (Or.inr (slot_ne (Or.inr (ow hw 22 rfl)) (Or.inr (ow hw 21 rfl)) (by decide) (t := .byte) (t' := (.array .byte)) (by decide) (by decide))))
      have f20 := ((VbL.other W13 (Ne.symm ne_oa_ob)).other W17 (Ne.symm ne_oa_ob))
      have f21 := ((((Keep.refl h0 [oa]).trans K5 all0).wr W13 (Or.inl (List.mem_of_getElem? (i := 0) rfl))).wr W17 (Or.inl (List.mem_of_getElem? (i := 0) rfl)))
      have f22 := (f16.wr W17)
      exact ⟨rfl, N17, f21, f22, ob, kb, gb, sz_ob, Fw17, Or.inl ⟨f19, hall, bb0, f20, qbb0⟩⟩
  · have own_mU := True.intro
    obtain ⟨_, _, ⟨T23, L23, k23, n23⟩, -, X23, ⟨Lc23, hQ23, l23, y23, z23⟩, st23⟩ := Jvm.LawKit.callS X5 hx (y := yn29) hown (mvT hZ (ow hw 44 rfl)) (mvT hZ (ow hw 45 rfl)) (mvT hZ (ow hw 39 rfl)) (mvT hZ (ow hw 46 rfl)) (by decide) (backOf (W := 1) (rm_cg l Z a0 hw [] ob (1 : Int32) (1 : Int32) (2 : Int32) kb [(.int lo0), (.int hi0)] T5.heap n0 Zs6 VbU (Or.inr ⟨rfl, by decide⟩)) hZ (ow hw 46 rfl) (ow hw 39 rfl) (by decide) (by decide)) (g := (mkF m 45 #[.val (.ref oa), .val (.ref oc), .val (.int 0), .val (.int 1), .val .null, .val (.ref ob)] [(.int 1), (.ref ob), (.ref oa)])) rfl (by rw [hml]; rfl) (argsL := [(.ref ob), (.int 1)]) (rest := [(.ref oa)]) (lenOf pd_18 rfl) rfl (by exact Nat.le_of_eq rfl) (hb hby d3_45) (fun _ _ => ⟨rfl, rfl, (by decide : 2 + 0 ≤ _), (by decide : 3 + 0 ≤ _)⟩)
    dsimp only [Pt.U, Pt.locs, Pt.cells, Pt.slots] at X23 l23 y23 z23 st23 hQ23
    rw [l23, y23, z23] at X23
    obtain ⟨zf, rfl, hzf, N23q, e23⟩ := hQ23
    have N23 := Fr.app N5 N23q
    have pre24 : oP p e below (T23.setTop (mkF m 48 #[.val (.ref oa), .val (.ref oc), .val (.int 0), .val (.int 1), .val .null, .val (.ref ob)] [(.int zf), (.ref oa)])) (SS) := fun t kt => by
      refine pre7 _ ?_
      refine XS.astore X5.here hx rfl (hb hby d3_39) rfl rfl (l' := #[.val (.ref oa), .val (.ref oc), .val (.int 0), .val (.int 1), .val .null, .val (.ref ob)]) rfl ?_
      refine XS.aloadN X5.here hx rfl (hb hby d3_41) rfl rfl ?_
      refine XS.aload X5.here hx rfl (hb hby d3_42) rfl rfl ?_
      refine XS.iloadN X5.here hx rfl (hb hby d3_44) rfl ?_
      refine st23 _ ?_
      exact kt
    subst hzf
    have pre25 : oP p e below (T23.setTop (mkF m 48 #[.val (.ref oa), .val (.ref oc), .val (.int 0), .val (.int 1), .val .null, .val (.ref ob)] [(.int 1), (.ref oa)])) (SS) := pre24
    have f26 := (Fc.keep K5 nin0)
    have f27 := (Es.keep K5)
    obtain ⟨T28, h28, X28, e28, W28, st28⟩ := putFN X23 hx hZ hown (ow hw 26 rfl) Via.refl e23 f26 f27 (Or.inr ⟨(ow hw 22 rfl), rfl, hnm⟩) (ow hw 7 rfl) (ty := .byte) (v' := (.int 1)) (by decide) rfl rfl (g := (mkF m 48 #[.val (.ref oa), .val (.ref oc), .val (.int 0), .val (.int 1), .val .null, .val (.ref ob)] [(.int 1), (.ref oa)])) rfl rfl (hb hby d3_48)
    have N28 := Fr.snoc X28 N23 ga
    have Zs29 : n0 ≤ h28.size := by rw [W28.size]; exact Zs6
    have Fw28 := f26.same W28
    have f30 := ((Fv.keep K5 nin0).other W28 (Or.inr (slot_ne (Or.inr (ow hw 21 rfl)) (Or.inr (ow hw 22 rfl)) (by decide) (t := (.array .byte)) (t' := .byte) (by decide) (by decide))))
    have f31 := (f27.wr W28)
    obtain ⟨T32, h32, X32, e32, W32, st32⟩ := putF X28 hx hZ hown (host := "") (Or.inl (ow hw 25 rfl)) Via.refl e28 f30 f31 (Or.inr ⟨(ow hw 21 rfl), rfl, hnm⟩) (ow hw 7 rfl) (ty := (.array .byte)) (by decide) rfl rfl (g := (mkF m 54 #[.val (.ref oa), .val (.ref oc), .val (.int 0), .val (.int 1), .val .null, .val (.ref ob)] [(.ref ob), (.ref oa)])) rfl rfl (hb hby d3_54)
    have N32 := Fr.snoc X32 N28 ga
    have Zs33 : n0 ≤ h32.size := by rw [W32.size]; exact Zs29
    have Fw32 := f30.same W32
    subst hSS
    obtain ⟨fs, hr, q1, q2, q3, q4⟩ := X32.leave (v := none) (fun _ => rfl)
    refine ⟨_, _, pre25 _ ?_, q1, q2, _, _, rfl, ?_, ⟨_, rfl⟩, q3, q4.mono (by decide) (by decide)⟩
    · refine st28 _ ?_
      refine XS.aloadN X28.here hx rfl (hb hby d3_51) rfl rfl ?_
      refine XS.aload X28.here hx rfl (hb hby d3_52) rfl rfl ?_
      refine st32 _ ?_
      show Steps p.tables e below (T32.setTop (mkF m 57 #[.val (.ref oa), .val (.ref oc), .val (.int 0), .val (.int 1), .val .null, .val (.ref ob)] [])) _
      exact X32.returnOut hx Bd.returns (hb hby d3_57) hr
    · show Q_iw1 Z _ _ _ _ _ _ h0 n0 _ T32.heap _
      rw [e32]
      have f34 := (Fw28.other W32 (Or.inr (slot_ne (Or.inr (ow hw 22 rfl)) (Or.inr (ow hw 21 rfl)) (by decide) (t := .byte) (t' := (.array .byte)) (by decide) (by decide))))
      have f35 := ((VbU.other W28 (Ne.symm ne_oa_ob)).other W32 (Ne.symm ne_oa_ob))
      have f36 := ((((Keep.refl h0 [oa]).trans K5 all0).wr W28 (Or.inl (List.mem_of_getElem? (i := 0) rfl))).wr W32 (Or.inl (List.mem_of_getElem? (i := 0) rfl)))
      have f37 := (f31.wr W32)
      exact ⟨rfl, N32, f36, f37, ob, kb, gb, sz_ob, Fw32, Or.inr ⟨f34, hall, lo0, hi0, f35, qlo0, qhi0⟩⟩
theorem d2_0 : decode kc31 0 = .ok (.aload_n 0, 1) := by decide +kernel
theorem d2_1 : decode kc31 1 = .ok (.aload_n 1, 1) := by decide +kernel
theorem d2_2 : decode kc31 2 = .ok (.iconst 0, 1) := by decide +kernel
theorem d2_3 : decode kc31 3 = .ok (.aload_n 1, 1) := by decide +kernel
theorem d2_4 : decode kc31 4 = .ok (.arraylength, 1) := by decide +kernel
theorem d2_5 : decode kc31 5 = .ok (.aconst_null, 1) := by decide +kernel
theorem d2_6 : decode kc31 6 = .ok (.invokespecial 27, 3) := by decide +kernel
theorem d2_9 : decode kc31 9 = .ok (.return_, 1) := by decide +kernel
theorem ef_rm_mu1 (m : MethodId) (x0 : Addr) (x1 : Addr) : entryFrame m #[(.ref x0), (.ref x1)] 2 = mkF m 0 #[.val (.ref x0), .val (.ref x1)] [] := by first | (simp [entryFrame, mkF, argsToLocals, Value.category]; done) | rfl
theorem pd_19 : parseMethodDescriptor "([CIILjava/lang/Void;)V" = some ⟨[(.array .char), .int, .int, (.object "java/lang/Void")], none⟩ := by decide +kernel
def Q_mu1 (Z : State) (oa : Addr) (oc : Addr) (vcs : Int32) (vf : Value) (kC : ClassId) (c0 : Int32) (h0 : Heap) (n0 : Nat) (v : Option Value) (h : Heap) (L : List Loc) : Prop := v = none ∧ Fr n0 L ∧ Keep h0 h [oa] ∧ Exa Z h oa "java/lang/String" ∧ ∃ (ob : Addr) (kb : ClassId), n0 ≤ ob ∧ h0.size ≤ ob ∧ Fld Z h oa "java/lang/String" "value" "[B" (.ref ob) ∧ ((Fld Z h oa "java/lang/String" "coder" "B" (.int 0) ∧ ((c0.toInt ≤ 255) ∧ ∃ bb0 : Int32, Arv Z h ob kb .byte (1 : Int32) [(.int bb0)] (.int 0) ∧ bb0.toInt % 256 = c0.toInt)) ∨ (Fld Z h oa "java/lang/String" "coder" "B" (.int 1) ∧ (¬ (c0.toInt ≤ 255) ∧ ∃ lo0 hi0 : Int32, Arv Z h ob kb .byte (2 : Int32) [(.int lo0), (.int hi0)] (.int 0) ∧ lo0.toInt % 256 = c0.toInt % 256 ∧ hi0.toInt % 256 = c0.toInt / 256)))
theorem rm_mu1 (l : Launch) (Z : State) (a0 : Array Value) (hw : ∀ d ∈ tables_1, d.before a0 Z = true) (ws : List Jvm.Cond) (oa : Addr) (oc : Addr) (vcs : Int32) (vf : Value) (kC : ClassId) (c0 : Int32) (h0 : Heap) (n0 : Nat) (Z0 : n0 ≤ h0.size) (Os : own_st Z h0 vcs vf) (Es : Exa Z h0 oa "java/lang/String") (Fc : Fld Z h0 oa "java/lang/String" "coder" "B" (.int 0)) (Fv : Fld Z h0 oa "java/lang/String" "value" "[B" .null) (ga : n0 ≤ oa) (nac : oa ≠ oc) (Vc : Arv Z h0 oc kC .char (1 : Int32) [(.int c0)] (.int 0)) (uc0 : 0 ≤ c0.toInt) (vc0 : c0.toInt < 65536) :
    MetFree l yn31 (head1 (Jvm.Cond.code yn31 kc31 2 none :: ws) ⟨5, 2, 3, 74⟩) (fun a U => a = #[(.ref oa), (.ref oc)] ∧ Z.Warmed39 U.vm ∧ U.heap = h0) (fun _ _ _ _ _ => True) (fun _ U o U' => ∃ v L, o = .returned v ∧ Q_mu1 Z oa oc vcs vf kC c0 h0 n0 v U'.heap L ∧ FrameEnd U o U' L 2 3) := by
  refine MetFree.of_bodySF (plainFor_of_name pn_1) hisR ?_
  intro p e s m args below meth c s₁ Bd hml0 hP hK
  obtain ⟨rfl, hZ, hh⟩ := hP
  have hx := Bd.exec
  have hby := Bd.bytes
  have hml : c.maxLocals = 2 := hml0
  have hown : s.vm.findClass "java/lang/String" = some m.cls := findClass_of_methodNamed Bd.named
  have hnm := (name_of_methodNamed Bd.named Bd.method).1
  have X0 : Stand p l e ⟨5, 2, 3, 74⟩ s m #[(.ref oa), (.ref oc)] below meth c s₁ [] 0 0 := Stand.of_body Bd
  have e0 : s₁.heap = h0 := by rw [← hh, Bd.state]; rfl
  have N0 := Fr.nil n0
  obtain ⟨SS, hSS⟩ : ∃ S, S = s₁.setTop (entryFrame m #[(.ref oa), (.ref oc)] 2) := ⟨_, rfl⟩
  have pre0 : oP p e below (s₁.setTop (mkF m 0 #[.val (.ref oa), .val (.ref oc)] [])) (SS) := by
    rw [hSS]; exact fun t k => castTop (ef_rm_mu1 m oa oc) k
  obtain ⟨cl1, Ar1, q1, S1, M1, H1, G1⟩ := id Vc
  obtain ⟨_, _, ⟨T2, L2, k2, n2⟩, -, X2, ⟨Lc2, hQ2, l2, y2, z2⟩, st2⟩ := X0.specialBack hx (y := yn30) rfl hown (mvT hZ (ow hw 12 rfl)) (mvT hZ (ow hw 13 rfl)) (mvT hZ (ow hw 15 rfl)) (by decide) (backOf (W := 0) (rm_iw1 l Z a0 hw [] oa oc vcs vf kC c0 h0 n0 Z0 Os Es Fc Fv ga nac Vc uc0 vc0) hZ (ow hw 15 rfl) (ow hw 8 rfl) (by decide) (by decide)) (g := (mkF m 6 #[.val (.ref oa), .val (.ref oc)] [.null, (.int 1), (.int 0), (.ref oc), (.ref oa)])) rfl (by rw [hml]; rfl) (Steps.refl _) (a := oa) (argsL := [(.ref oc), (.int 0), (.int 1), .null]) (rest := []) (lenOf pd_19 rfl) rfl (by exact Nat.le_of_eq rfl) (hb hby d2_6) (fun _ _ => ⟨rfl, e0, (by decide : 0 + 2 ≤ _), (by decide : 0 + 3 ≤ _)⟩)
  dsimp only [Pt.U, Pt.locs, Pt.cells, Pt.slots] at X2 l2 y2 z2 st2 hQ2
  rw [l2, y2, z2] at X2
  obtain ⟨rfl, N2q, K2, A2, ob, kb, gb, szb, Fv2, hO2⟩ := hQ2
  have N2 := Fr.app N0 N2q
  have Zs3 : n0 ≤ T2.heap.size := Nat.le_trans Z0 K2.1
  have ne_oa_ob : oa ≠ ob := Nat.ne_of_lt (Nat.lt_of_lt_of_le Es.lt szb)
  have ne_oc_ob : oc ≠ ob := Nat.ne_of_lt (Nat.lt_of_lt_of_le Vc.lt szb)
  have sz_ob : h0.size ≤ ob := Nat.le_trans (Keep.refl h0 [oa]).1 szb
  subst hSS
  obtain ⟨fs, hr, q1, q2, q3, q4⟩ := X2.leave (v := none) (fun _ => rfl)
  refine ⟨_, _, pre0 _ ?_, q1, q2, _, _, rfl, ?_, ⟨_, rfl⟩, q3, q4.mono (by decide) (by decide)⟩
  · refine XS.aloadN X0.here hx rfl (hb hby d2_0) rfl rfl ?_
    refine XS.aloadN X0.here hx rfl (hb hby d2_1) rfl rfl ?_
    refine XS.iconst X0.here hx rfl (hb hby d2_2) ?_
    refine XS.aloadN X0.here hx rfl (hb hby d2_3) rfl rfl ?_
    refine X0.arraylength hx (by rw [e0]; exact Ar1.1) (State.isArrayOf_alike hZ.alike Ar1.2.1) (g := (mkF m 4 #[.val (.ref oa), .val (.ref oc)] [(.ref oc), (.int 0), (.ref oc), (.ref oa)])) rfl rfl (hb hby d2_4) _ ?_
    rw [len_of S1 M1]
    refine XS.aconstNull X0.here hx rfl (hb hby d2_5) ?_
    refine st2.trans ?_
    exact X2.returnOut hx Bd.returns (hb hby d2_9) hr
  · show Q_mu1 Z _ _ _ _ _ _ h0 n0 _ T2.heap _
    have f4 := ((Keep.refl h0 [oa]).trans K2 (allS (P := fun x => x ∈ [oa] ∨ h0.size ≤ x) (Or.inl (List.mem_of_getElem? (i := 0) rfl)) all0))
    exact ⟨rfl, N2, f4, A2, ob, kb, gb, sz_ob, Fv2, hO2⟩
def own_s2 (Z : State) (h : Heap) (oa ob : Addr) (kb : ClassId) (c0 c1 : Int32) : Prop := Exa Z h oa "java/lang/String" ∧ Fld Z h oa "java/lang/String" "value" "[B" (.ref ob) ∧ ((Fld Z h oa "java/lang/String" "coder" "B" (.int 0) ∧ ((c0.toInt ≤ 255 ∧ c1.toInt ≤ 255) ∧ ∃ bb0 bb1 : Int32, Arv Z h ob kb .byte (2 : Int32) [(.int bb0), (.int bb1)] (.int 0) ∧ bb0.toInt % 256 = c0.toInt ∧ bb1.toInt % 256 = c1.toInt)) ∨ (Fld Z h oa "java/lang/String" "coder" "B" (.int 1) ∧ (¬ (c0.toInt ≤ 255 ∧ c1.toInt ≤ 255) ∧ ∃ lo0 hi0 lo1 hi1 : Int32, Arv Z h ob kb .byte (4 : Int32) [(.int lo0), (.int hi0), (.int lo1), (.int hi1)] (.int 0) ∧ lo0.toInt % 256 = c0.toInt % 256 ∧ hi0.toInt % 256 = c0.toInt / 256 ∧ lo1.toInt % 256 = c1.toInt % 256 ∧ hi1.toInt % 256 = c1.toInt / 256)))
theorem ef_rm_nm2 (m : MethodId) (x0 : Addr) : entryFrame m #[(.ref x0)] 1 = mkF m 0 #[.val (.ref x0)] [] := by first | (simp [entryFrame, mkF, argsToLocals, Value.category]; done) | rfl
def Q_nm2 (Z : State) (oa : Addr) (vcs : Int32) (vf : Value) (ob : Addr) (kb : ClassId) (c0 : Int32) (c1 : Int32) (h0 : Heap) (n0 : Nat) (v : Option Value) (h : Heap) (L : List Loc) : Prop := ∃ z : Int32, v = some (.int z) ∧ ((z.toInt = 1 ∧ ¬ (c0.toInt = 46 ∧ c1.toInt = 46) ∧ ¬ (c0.toInt = 0 ∨ c1.toInt = 0)) ∨ (z.toInt = 0 ∧ ¬ (¬ (c0.toInt = 46 ∧ c1.toInt = 46) ∧ ¬ (c0.toInt = 0 ∨ c1.toInt = 0)))) ∧ Fr n0 L ∧ Keep h0 h []
theorem rm_nm2 (l : Launch) (Z : State) (a0 : Array Value) (hw : ∀ d ∈ tables_1, d.before a0 Z = true) (ws : List Jvm.Cond) (oa : Addr) (vcs : Int32) (vf : Value) (ob : Addr) (kb : ClassId) (c0 : Int32) (c1 : Int32) (h0 : Heap) (n0 : Nat) (Z0 : n0 ≤ h0.size) (Os : own_st Z h0 vcs vf) (Sx : own_s2 Z h0 oa ob kb c0 c1) (uc0 : 0 ≤ c0.toInt) (uc1 : 0 ≤ c1.toInt) (vc0 : c0.toInt < 65536) (vc1 : c1.toInt < 65536) :
    MetFree l yn22 (head1 (Jvm.Cond.code yn22 kc22 1 (some .boolean) :: ws) ⟨7, 4, 20, 100⟩) (fun a U => a = #[(.ref oa)] ∧ Z.Warmed39 U.vm ∧ U.heap = h0 ∧ CHv Z own_EL U.vm h0) (fun _ _ _ _ _ => True) (fun _ U o U' => ∃ v L, o = .returned v ∧ Q_nm2 Z oa vcs vf ob kb c0 c1 h0 n0 v U'.heap L ∧ CHr Z own_EL U.vm U.heap U'.vm U'.heap ∧ ReturnedEndW U o U' L 4 20) := by
  refine MetFree.of_bodySF (plainFor_of_name pn_5) hisR ?_
  intro p e s m args below meth c s₁ Bd hml0 hP hK
  obtain ⟨rfl, hZ, hh, hC⟩ := hP
  have hx := Bd.exec
  have hby := Bd.bytes
  have hml : c.maxLocals = 1 := hml0
  have hown : s.vm.findClass "com/example/attestbridge/attestbridge/sync/AclPolicy" = some m.cls := findClass_of_methodNamed Bd.named
  have hnm := (name_of_methodNamed Bd.named Bd.method).1
  have X0 : Stand p l e ⟨7, 4, 20, 100⟩ (s.setVm s.vm) m #[(.ref oa)] below meth c s₁ [] 0 0 := Stand.of_body Bd
  have e0 : s₁.heap = h0 := by rw [← hh, Bd.state]; rfl
  have N0 := Fr.nil n0
  have hEL := own_EW hw
  have wS := own_wS hw
  have CR0 : CHr Z own_EL s.vm h0 s.vm h0 := CHr.refl hC
  have hS0 : s.Since s.vm h0.size := (State.WarmedH.refl s).since _
  have hk0 : h0.size ≤ h0.size := Nat.le_refl _
  obtain ⟨SS, hSS⟩ : ∃ S, S = s₁.setTop (entryFrame m #[(.ref oa)] 1) := ⟨_, rfl⟩
  have pre0 : oP p e below (s₁.setTop (mkF m 0 #[.val (.ref oa)] [])) (SS) := by
    rw [hSS]; exact fun t k => castTop (ef_rm_nm2 m oa) k
  obtain ⟨Es, Fv, hO⟩ := id Sx
  rcases hO with ⟨Fc, hall, bb0, bb1, Vb, qbb0, qbb1⟩ | ⟨Fc, hall, lo0, hi0, lo1, hi1, Vb, qlo0, qhi0, qlo1, qhi1⟩
  · have own_m0 := True.intro
    have hy0 := own_byte Vb 0 (by decide) rfl
    have hy1 := own_byte Vb 1 (by decide) rfl
    have pre1 : oP p e below (s₁.setTop (mkF m 1 #[.val (.ref oa)] [(.ref oa)])) (SS) := fun t kt => by
      refine pre0 _ ?_
      refine XS.aloadN X0.here hx rfl (hb hby d5_0) rfl rfl ?_
      exact kt
    obtain ⟨cq2, kq2, q2a, q2b, q2c⟩ := isOf hZ e0 Es
    obtain ⟨_, _, ⟨T2, L2, k2, n2⟩, -, X2, ⟨Lc2, hQ2, l2, y2, z2⟩, st2⟩ := X0.virtualBack hx (y := yn1) (z := yn1) hown (mvT hZ (ow hw 31 rfl)) (mvT hZ (ow hw 32 rfl)) (notFace_of_selects (args := #[]) (mvT hZ (ow hw 34 rfl))) (mvT hZ (ow hw 34 rfl)) (mvT hZ (ow hw 33 rfl)) (by decide) (backOf (W := 0) (rm_emp l Z a0 hw [] oa ob kb (2 : Int32) [(.int bb0), (.int bb1)] h0 n0 Z0 Fv Vb) hZ (ow hw 35 rfl) (ow hw 8 rfl) (by decide) (by decide)) q2a q2c (g := (mkF m 1 #[.val (.ref oa)] [(.ref oa)])) rfl (by rw [hml]; rfl) (Steps.refl _) (argsL := []) (rest := []) (lenOf pd_10 rfl) rfl (by exact Nat.le_of_eq rfl) (hb hby d5_1) (fun _ _ => ⟨rfl, e0, (by decide : 0 + 0 ≤ _), (by decide : 0 + 0 ≤ _)⟩)
    dsimp only [Pt.U, Pt.locs, Pt.cells, Pt.slots] at X2 l2 y2 z2 st2 hQ2
    rw [l2, y2, z2] at X2
    obtain ⟨ze, rfl, hze, N2q, e2⟩ := hQ2
    have N2 := Fr.app N0 N2q
    have pre3 : oP p e below (T2.setTop (mkF m 4 #[.val (.ref oa)] [(.int ze)])) (SS) := fun t kt => by
      refine pre1 _ ?_
      refine st2.trans ?_
      exact kt
    have eze : ze = (0 : Int32) := by
      rcases hze with ⟨_, q⟩ | ⟨q, _⟩
      · exact absurd q (by decide)
      · exact q
    subst eze
    have pre4 : oP p e below (T2.setTop (mkF m 4 #[.val (.ref oa)] [(.int 0)])) (SS) := pre3
    have hc4_5 : (0 : Int) = (0 : Int) := by decide
    have pre6 : oP p e below (T2.setTop (mkF m 8 #[.val (.ref oa)] [(.ref oa)])) (SS) := fun t kt => by
      refine pre4 _ ?_
      refine XS.ifNo X2.here hx rfl (hb hby d5_4) rfl (own_if (own_teq (a := (0 : Int32)) (b := (0 : Int32)) (by decide) (by decide) hc4_5).2) ?_
      refine XS.aloadN X2.here hx rfl (hb hby d5_7) rfl rfl ?_
      exact kt
    obtain ⟨la7, T7, h7, k17, lb7, kb7, X7, e7, E7, hS7, hk7, hZ, hown, A7, Fc7, Fv7, V7, lt7, lu7, CRn7, Lt7, Sf7, st7⟩ := ldcCH X2 hx hZ hown (text := ".") (ow hw 47 rfl) wS e2 hS0 hk0 hEL (List.mem_of_getElem? (i := 0) rfl) CR0.1 (vs := [(.int 46)]) (z := (1 : Int32)) ⟨by decide, by rfl⟩ (by decide) rfl (g := (mkF m 8 #[.val (.ref oa)] [(.ref oa)])) rfl (hb hby d5_8) (n := 4) (by decide) (by decide) (by decide) (by decide)
    have CR8 := CR0.trans CRn7
    have Zs9 : n0 ≤ h7.size := Nat.le_trans Z0 E7.1
    have pre10 : oP p e below (T7.setTop (mkF m 10 #[.val (.ref oa)] [(.ref la7), (.ref oa)])) (SS) := fun t kt => by
      refine pre6 _ ?_
      refine st7 _ ?_
      exact kt
    have os11 := (own_st_ext Os E7)
    have f12 := (Es.ext E7)
    have f13 := (Fc.ext E7)
    have f14 := (Fv.ext E7)
    have f15 := (Vb.ext E7)
    obtain ⟨cq16, kq16, q16a, q16b, q16c⟩ := isOf hZ e7 f12
    obtain ⟨_, _, ⟨T16, L16, k16, n16⟩, -, X16, ⟨Lc16, hQ16, l16, y16, z16⟩, st16⟩ := X7.virtualBack hx (y := yn3) (z := yn3) hown (mvT hZ (ow hw 48 rfl)) (mvT hZ (ow hw 49 rfl)) (notFace_of_selects (args := #[]) (mvT hZ (ow hw 51 rfl))) (mvT hZ (ow hw 51 rfl)) (mvT hZ (ow hw 50 rfl)) (by decide) (backOf (W := 0) (rm_eqN l Z a0 hw [] oa la7 vcs vf ob kb lb7 kb7 (2 : Int32) [(.int bb0), (.int bb1)] (1 : Int32) [(.int 46)] h7 n0 Zs9 os11 f12 f13 f14 f15 A7 Fc7 Fv7 V7 (by decide) (own_ne_len f14 Fv7 f15 V7 (by decide))) hZ (ow hw 52 rfl) (ow hw 8 rfl) (by decide) (by decide)) q16a q16c (g := (mkF m 10 #[.val (.ref oa)] [(.ref la7), (.ref oa)])) rfl (by rw [hml]; rfl) (Steps.refl _) (argsL := [(.ref la7)]) (rest := []) (lenOf pd_12 rfl) rfl (by exact Nat.le_of_eq rfl) (hb hby d5_10) (fun _ _ => ⟨rfl, e7, (by decide : 2 + 0 ≤ _), (by decide : 8 + 0 ≤ _)⟩)
    dsimp only [Pt.U, Pt.locs, Pt.cells, Pt.slots] at X16 l16 y16 z16 st16 hQ16
    rw [l16, y16, z16] at X16
    obtain ⟨zd, rfl, hzd, N16q, e16⟩ := hQ16
    have N16 := Fr.app N2 N16q
    have pre17 : oP p e below (T16.setTop (mkF m 13 #[.val (.ref oa)] [(.int zd)])) (SS) := fun t kt => by
      refine pre10 _ ?_
      refine st16.trans ?_
      exact kt
    subst hzd
    have pre18 : oP p e below (T16.setTop (mkF m 13 #[.val (.ref oa)] [(.int 0)])) (SS) := pre17
    have hc13_19 : (0 : Int) = (0 : Int) := by decide
    have pre20 : oP p e below (T16.setTop (mkF m 17 #[.val (.ref oa)] [(.ref oa)])) (SS) := fun t kt => by
      refine pre18 _ ?_
      refine XS.ifNo X16.here hx rfl (hb hby d5_13) rfl (own_if (own_teq (a := (0 : Int32)) (b := (0 : Int32)) (by decide) (by decide) hc13_19).2) ?_
      refine XS.aloadN X16.here hx rfl (hb hby d5_16) rfl rfl ?_
      exact kt
    obtain ⟨la21, T21, h21, k121, lb21, kb21, X21, e21, E21, hS21, hk21, hZ, hown, A21, Fc21, Fv21, V21, lt21, lu21, CRn21, Lt21, Sf21, st21⟩ := ldcCH X16 hx hZ hown (text := "..") (ow hw 58 rfl) wS e16 hS7 hk7 hEL (List.mem_of_getElem? (i := 1) rfl) CR8.1 (vs := [(.int 46), (.int 46)]) (z := (2 : Int32)) ⟨by decide, by rfl⟩ (by decide) rfl (g := (mkF m 17 #[.val (.ref oa)] [(.ref oa)])) rfl (hb hby d5_17) (n := 8) (by decide) (by decide) (by decide) (by decide)
    have CR22 := CR8.trans CRn21
    have Zs23 : n0 ≤ h21.size := Nat.le_trans Zs9 E21.1
    have pre24 : oP p e below (T21.setTop (mkF m 19 #[.val (.ref oa)] [(.ref la21), (.ref oa)])) (SS) := fun t kt => by
      refine pre20 _ ?_
      refine st21 _ ?_
      exact kt
    have os25 := (own_st_ext os11 E21)
    have f26 := (f12.ext E21)
    have f27 := (f13.ext E21)
    have f28 := (f14.ext E21)
    have f29 := (f15.ext E21)
    obtain ⟨cq30, kq30, q30a, q30b, q30c⟩ := isOf hZ e21 f26
    obtain ⟨_, _, ⟨T30, L30, k30, n30⟩, -, X30, ⟨Lc30, hQ30, l30, y30, z30⟩, st30⟩ := X21.virtualBack hx (y := yn3) (z := yn3) hown (mvT hZ (ow hw 48 rfl)) (mvT hZ (ow hw 49 rfl)) (notFace_of_selects (args := #[]) (mvT hZ (ow hw 51 rfl))) (mvT hZ (ow hw 51 rfl)) (mvT hZ (ow hw 50 rfl)) (by decide) (backOf (W := 0) (rm_eqE2 l Z a0 hw [] oa la21 vcs vf ob kb lb21 kb21 bb0 bb1 h21 n0 Zs23 os25 f26 f27 f28 f29 A21 Fc21 Fv21 V21) hZ (ow hw 52 rfl) (ow hw 8 rfl) (by decide) (by decide)) q30a q30c (g := (mkF m 19 #[.val (.ref oa)] [(.ref la21), (.ref oa)])) rfl (by rw [hml]; rfl) (Steps.refl _) (argsL := [(.ref la21)]) (rest := []) (lenOf pd_12 rfl) rfl (by exact Nat.le_of_eq rfl) (hb hby d5_19) (fun _ _ => ⟨rfl, e21, (by decide : 4 + 0 ≤ _), (by decide : 20 + 0 ≤ _)⟩)
    dsimp only [Pt.U, Pt.locs, Pt.cells, Pt.slots] at X30 l30 y30 z30 st30 hQ30
    rw [l30, y30, z30] at X30
    obtain ⟨zdd, rfl, hzdd, N30q, e30⟩ := hQ30
    have N30 := Fr.app N16 N30q
    have pre31 : oP p e below (T30.setTop (mkF m 22 #[.val (.ref oa)] [(.int zdd)])) (SS) := fun t kt => by
      refine pre24 _ ?_
      refine st30.trans ?_
      exact kt
    rcases hzdd with ⟨rfl, hd2⟩ | ⟨rfl, hd2⟩
    · have pre32 : oP p e below (T30.setTop (mkF m 22 #[.val (.ref oa)] [(.int 1)])) (SS) := pre31
      have hc22_33 : ¬ ((1 : Int) = (0 : Int)) := by decide
      subst hSS
      obtain ⟨fs, hr, hrun, hended, hREW⟩ := X30.leaveW hS21 (by rw [e30]; exact hk21) (v := some (.int 0)) (fun h => by rw [Bd.returns] at h; cases h)
      refine ⟨_, _, pre32 _ ?_, hrun, hended, _, _, rfl, ?_, ?_, ⟨hREW.1, hREW.2.1, hREW.2.2.1, hREW.2.2.2.mono (by decide) (by decide)⟩⟩
      · refine XS.ifYes X30.here hx rfl (pc0 := 22) (pc' := 37) rfl (hb hby d5_22) rfl (own_if (own_feq (a := (1 : Int32)) (b := (0 : Int32)) (by decide) (by decide) hc22_33).2) (by decide) (by decide) ?_
        refine XS.iconst X30.here hx rfl (hb hby d5_37) ?_
        exact retN X30 hx (t := .boolean) Bd.returns (by simp) (hb hby d5_38) hr
      · show Q_nm2 Z _ _ _ _ _ _ _ h0 n0 _ T30.heap _
        rw [e30]
        have f34 := (((Keep.refl h0 []).ext E7).ext E21)
        exact ⟨_, rfl, by have iv : ((0 : Int32)).toInt = (0 : Int) := (by decide); omega, N30, f34⟩
      · show CHr Z own_EL s.vm s.heap T30.vm T30.heap
        rw [hh, e30]
        exact CR22.trans (CHv.at X30 hZ hEL CR22.1)
    · have pre35 : oP p e below (T30.setTop (mkF m 22 #[.val (.ref oa)] [(.int 0)])) (SS) := pre31
      have hc22_36 : (0 : Int) = (0 : Int) := by decide
      have pre37 : oP p e below (T30.setTop (mkF m 27 #[.val (.ref oa)] [(.int 0), (.ref oa)])) (SS) := fun t kt => by
        refine pre35 _ ?_
        refine XS.ifNo X30.here hx rfl (hb hby d5_22) rfl (own_if (own_teq (a := (0 : Int32)) (b := (0 : Int32)) (by decide) (by decide) hc22_36).2) ?_
        refine XS.aloadN X30.here hx rfl (hb hby d5_25) rfl rfl ?_
        refine XS.iconst X30.here hx rfl (hb hby d5_26) ?_
        exact kt
      have HH38 := rm_ioc2 l Z a0 hw [] ob vcs vf kb bb0 bb1 h21 n0 Zs23 os25 f29
      obtain ⟨cq39, kq39, q39a, q39b, q39c⟩ := isOf hZ e30 f26
      obtain ⟨_, _, ⟨T39, L39, k39, n39⟩, -, X39, ⟨Lc39, hQ39, l39, y39, z39⟩, st39⟩ := X30.virtualBack hx (y := yn21) (z := yn21) hown (mvT hZ (ow hw 59 rfl)) (mvT hZ (ow hw 60 rfl)) (notFace_of_selects (args := #[]) (mvT hZ (ow hw 62 rfl))) (mvT hZ (ow hw 62 rfl)) (mvT hZ (ow hw 61 rfl)) (by decide) (backOf (W := 0) (rm_sx0 l Z a0 hw [] oa vcs vf ob kb (2 : Int32) (2 : Int32) [(.int bb0), (.int bb1)] (fun z => (0 ≤ z.toInt ∧ (bb0.toInt = 0 ∨ bb1.toInt = 0)) ∨ (z.toInt < 0 ∧ ¬ (bb0.toInt = 0 ∨ bb1.toInt = 0))) (Q_ioc2 Z ob vcs vf kb bb0 bb1 h21 n0) h21 n0 Zs23 os25 f26 f27 f28 f29 (by decide) (by decide) (by decide) HH38 (fun _ _ _ q => q)) hZ (ow hw 63 rfl) (ow hw 8 rfl) (by decide) (by decide)) q39a q39c (g := (mkF m 27 #[.val (.ref oa)] [(.int 0), (.ref oa)])) rfl (by rw [hml]; rfl) (Steps.refl _) (argsL := [(.int 0)]) (rest := []) (lenOf pd_13 rfl) rfl (by exact Nat.le_of_eq rfl) (hb hby d5_27) (fun _ _ => ⟨rfl, e30, (by decide : 4 + 0 ≤ _), (by decide : 20 + 0 ≤ _)⟩)
      dsimp only [Pt.U, Pt.locs, Pt.cells, Pt.slots] at X39 l39 y39 z39 st39 hQ39
      rw [l39, y39, z39] at X39
      obtain ⟨zi, rfl, hzi, N39q, e39⟩ := hQ39
      have N39 := Fr.app N30 N39q
      have pre41 : oP p e below (T39.setTop (mkF m 30 #[.val (.ref oa)] [(.int zi)])) (SS) := fun t kt => by
        refine pre37 _ ?_
        refine st39.trans ?_
        exact kt
      by_cases hc30_40 : zi.toInt < (0 : Int)
      · subst hSS
        obtain ⟨fs, hr, hrun, hended, hREW⟩ := X39.leaveW hS21 (by rw [e39]; exact hk21) (v := some (.int 1)) (fun h => by rw [Bd.returns] at h; cases h)
        refine ⟨_, _, pre41 _ ?_, hrun, hended, _, _, rfl, ?_, ?_, ⟨hREW.1, hREW.2.1, hREW.2.2.1, hREW.2.2.2.mono (by decide) (by decide)⟩⟩
        · refine XS.ifNo X39.here hx rfl (hb hby d5_30) rfl (own_if (own_tlt (a := zi) (b := (0 : Int32)) rfl (by decide) hc30_40).2.1) ?_
          refine XS.iconst X39.here hx rfl (hb hby d5_33) ?_
          refine XS.goto X39.here hx rfl (pc0 := 34) (pc' := 38) rfl (hb hby d5_34) (by decide) (by decide) ?_
          exact retN X39 hx (t := .boolean) Bd.returns (by simp) (hb hby d5_38) hr
        · show Q_nm2 Z _ _ _ _ _ _ _ h0 n0 _ T39.heap _
          rw [e39]
          have f42 := (((Keep.refl h0 []).ext E7).ext E21)
          exact ⟨_, rfl, by have iv : ((1 : Int32)).toInt = (1 : Int) := (by decide); omega, N39, f42⟩
        · show CHr Z own_EL s.vm s.heap T39.vm T39.heap
          rw [hh, e39]
          exact CR22.trans (CHv.at X39 hZ hEL CR22.1)
      · subst hSS
        obtain ⟨fs, hr, hrun, hended, hREW⟩ := X39.leaveW hS21 (by rw [e39]; exact hk21) (v := some (.int 0)) (fun h => by rw [Bd.returns] at h; cases h)
        refine ⟨_, _, pre41 _ ?_, hrun, hended, _, _, rfl, ?_, ?_, ⟨hREW.1, hREW.2.1, hREW.2.2.1, hREW.2.2.2.mono (by decide) (by decide)⟩⟩
        · refine XS.ifYes X39.here hx rfl (pc0 := 30) (pc' := 37) rfl (hb hby d5_30) rfl (own_if (own_flt (a := zi) (b := (0 : Int32)) rfl (by decide) hc30_40).2.1) (by decide) (by decide) ?_
          refine XS.iconst X39.here hx rfl (hb hby d5_37) ?_
          exact retN X39 hx (t := .boolean) Bd.returns (by simp) (hb hby d5_38) hr
        · show Q_nm2 Z _ _ _ _ _ _ _ h0 n0 _ T39.heap _
          rw [e39]
          have f43 := (((Keep.refl h0 []).ext E7).ext E21)
          exact ⟨_, rfl, by have iv : ((0 : Int32)).toInt = (0 : Int) := (by decide); omega, N39, f43⟩
        · show CHr Z own_EL s.vm s.heap T39.vm T39.heap
          rw [hh, e39]
          exact CR22.trans (CHv.at X39 hZ hEL CR22.1)
  · have own_m1 := True.intro
    have pre44 : oP p e below (s₁.setTop (mkF m 1 #[.val (.ref oa)] [(.ref oa)])) (SS) := fun t kt => by
      refine pre0 _ ?_
      refine XS.aloadN X0.here hx rfl (hb hby d5_0) rfl rfl ?_
      exact kt
    obtain ⟨cq45, kq45, q45a, q45b, q45c⟩ := isOf hZ e0 Es
    obtain ⟨_, _, ⟨T45, L45, k45, n45⟩, -, X45, ⟨Lc45, hQ45, l45, y45, z45⟩, st45⟩ := X0.virtualBack hx (y := yn1) (z := yn1) hown (mvT hZ (ow hw 31 rfl)) (mvT hZ (ow hw 32 rfl)) (notFace_of_selects (args := #[]) (mvT hZ (ow hw 34 rfl))) (mvT hZ (ow hw 34 rfl)) (mvT hZ (ow hw 33 rfl)) (by decide) (backOf (W := 0) (rm_emp l Z a0 hw [] oa ob kb (4 : Int32) [(.int lo0), (.int hi0), (.int lo1), (.int hi1)] h0 n0 Z0 Fv Vb) hZ (ow hw 35 rfl) (ow hw 8 rfl) (by decide) (by decide)) q45a q45c (g := (mkF m 1 #[.val (.ref oa)] [(.ref oa)])) rfl (by rw [hml]; rfl) (Steps.refl _) (argsL := []) (rest := []) (lenOf pd_10 rfl) rfl (by exact Nat.le_of_eq rfl) (hb hby d5_1) (fun _ _ => ⟨rfl, e0, (by decide : 0 + 0 ≤ _), (by decide : 0 + 0 ≤ _)⟩)
    dsimp only [Pt.U, Pt.locs, Pt.cells, Pt.slots] at X45 l45 y45 z45 st45 hQ45
    rw [l45, y45, z45] at X45
    obtain ⟨ze, rfl, hze, N45q, e45⟩ := hQ45
    have N45 := Fr.app N0 N45q
    have pre46 : oP p e below (T45.setTop (mkF m 4 #[.val (.ref oa)] [(.int ze)])) (SS) := fun t kt => by
      refine pre44 _ ?_
      refine st45.trans ?_
      exact kt
    have eze : ze = (0 : Int32) := by
      rcases hze with ⟨_, q⟩ | ⟨q, _⟩
      · exact absurd q (by decide)
      · exact q
    subst eze
    have pre47 : oP p e below (T45.setTop (mkF m 4 #[.val (.ref oa)] [(.int 0)])) (SS) := pre46
    have hc4_48 : (0 : Int) = (0 : Int) := by decide
    have pre49 : oP p e below (T45.setTop (mkF m 8 #[.val (.ref oa)] [(.ref oa)])) (SS) := fun t kt => by
      refine pre47 _ ?_
      refine XS.ifNo X45.here hx rfl (hb hby d5_4) rfl (own_if (own_teq (a := (0 : Int32)) (b := (0 : Int32)) (by decide) (by decide) hc4_48).2) ?_
      refine XS.aloadN X45.here hx rfl (hb hby d5_7) rfl rfl ?_
      exact kt
    obtain ⟨la50, T50, h50, k150, lb50, kb50, X50, e50, E50, hS50, hk50, hZ, hown, A50, Fc50, Fv50, V50, lt50, lu50, CRn50, Lt50, Sf50, st50⟩ := ldcCH X45 hx hZ hown (text := ".") (ow hw 47 rfl) wS e45 hS0 hk0 hEL (List.mem_of_getElem? (i := 0) rfl) CR0.1 (vs := [(.int 46)]) (z := (1 : Int32)) ⟨by decide, by rfl⟩ (by decide) rfl (g := (mkF m 8 #[.val (.ref oa)] [(.ref oa)])) rfl (hb hby d5_8) (n := 4) (by decide) (by decide) (by decide) (by decide)
    have CR51 := CR0.trans CRn50
    have Zs52 : n0 ≤ h50.size := Nat.le_trans Z0 E50.1
    have pre53 : oP p e below (T50.setTop (mkF m 10 #[.val (.ref oa)] [(.ref la50), (.ref oa)])) (SS) := fun t kt => by
      refine pre49 _ ?_
      refine st50 _ ?_
      exact kt
    have os54 := (own_st_ext Os E50)
    have f55 := (Es.ext E50)
    have f56 := (Fc.ext E50)
    have f57 := (Fv.ext E50)
    have f58 := (Vb.ext E50)
    obtain ⟨cq59, kq59, q59a, q59b, q59c⟩ := isOf hZ e50 f55
    obtain ⟨_, _, ⟨T59, L59, k59, n59⟩, -, X59, ⟨Lc59, hQ59, l59, y59, z59⟩, st59⟩ := X50.virtualBack hx (y := yn3) (z := yn3) hown (mvT hZ (ow hw 48 rfl)) (mvT hZ (ow hw 49 rfl)) (notFace_of_selects (args := #[]) (mvT hZ (ow hw 51 rfl))) (mvT hZ (ow hw 51 rfl)) (mvT hZ (ow hw 50 rfl)) (by decide) (backOf (W := 0) (rm_eqU l Z a0 hw [] oa la50 vcs vf ob kb lb50 kb50 (4 : Int32) [(.int lo0), (.int hi0), (.int lo1), (.int hi1)] (1 : Int32) [(.int 46)] h50 n0 Zs52 os54 f55 f56 f57 f58 A50 Fc50 Fv50 V50 (own_ne_cod f56 Fc50)) hZ (ow hw 52 rfl) (ow hw 8 rfl) (by decide) (by decide)) q59a q59c (g := (mkF m 10 #[.val (.ref oa)] [(.ref la50), (.ref oa)])) rfl (by rw [hml]; rfl) (Steps.refl _) (argsL := [(.ref la50)]) (rest := []) (lenOf pd_12 rfl) rfl (by exact Nat.le_of_eq rfl) (hb hby d5_10) (fun _ _ => ⟨rfl, e50, (by decide : 2 + 0 ≤ _), (by decide : 8 + 0 ≤ _)⟩)
    dsimp only [Pt.U, Pt.locs, Pt.cells, Pt.slots] at X59 l59 y59 z59 st59 hQ59
    rw [l59, y59, z59] at X59
    obtain ⟨zd, rfl, hzd, N59q, e59⟩ := hQ59
    have N59 := Fr.app N45 N59q
    have pre60 : oP p e below (T59.setTop (mkF m 13 #[.val (.ref oa)] [(.int zd)])) (SS) := fun t kt => by
      refine pre53 _ ?_
      refine st59.trans ?_
      exact kt
    subst hzd
    have pre61 : oP p e below (T59.setTop (mkF m 13 #[.val (.ref oa)] [(.int 0)])) (SS) := pre60
    have hc13_62 : (0 : Int) = (0 : Int) := by decide
    have pre63 : oP p e below (T59.setTop (mkF m 17 #[.val (.ref oa)] [(.ref oa)])) (SS) := fun t kt => by
      refine pre61 _ ?_
      refine XS.ifNo X59.here hx rfl (hb hby d5_13) rfl (own_if (own_teq (a := (0 : Int32)) (b := (0 : Int32)) (by decide) (by decide) hc13_62).2) ?_
      refine XS.aloadN X59.here hx rfl (hb hby d5_16) rfl rfl ?_
      exact kt
    obtain ⟨la64, T64, h64, k164, lb64, kb64, X64, e64, E64, hS64, hk64, hZ, hown, A64, Fc64, Fv64, V64, lt64, lu64, CRn64, Lt64, Sf64, st64⟩ := ldcCH X59 hx hZ hown (text := "..") (ow hw 58 rfl) wS e59 hS50 hk50 hEL (List.mem_of_getElem? (i := 1) rfl) CR51.1 (vs := [(.int 46), (.int 46)]) (z := (2 : Int32)) ⟨by decide, by rfl⟩ (by decide) rfl (g := (mkF m 17 #[.val (.ref oa)] [(.ref oa)])) rfl (hb hby d5_17) (n := 8) (by decide) (by decide) (by decide) (by decide)
    have CR65 := CR51.trans CRn64
    have Zs66 : n0 ≤ h64.size := Nat.le_trans Zs52 E64.1
    have pre67 : oP p e below (T64.setTop (mkF m 19 #[.val (.ref oa)] [(.ref la64), (.ref oa)])) (SS) := fun t kt => by
      refine pre63 _ ?_
      refine st64 _ ?_
      exact kt
    have os68 := (own_st_ext os54 E64)
    have f69 := (f55.ext E64)
    have f70 := (f56.ext E64)
    have f71 := (f57.ext E64)
    have f72 := (f58.ext E64)
    obtain ⟨cq73, kq73, q73a, q73b, q73c⟩ := isOf hZ e64 f69
    obtain ⟨_, _, ⟨T73, L73, k73, n73⟩, -, X73, ⟨Lc73, hQ73, l73, y73, z73⟩, st73⟩ := X64.virtualBack hx (y := yn3) (z := yn3) hown (mvT hZ (ow hw 48 rfl)) (mvT hZ (ow hw 49 rfl)) (notFace_of_selects (args := #[]) (mvT hZ (ow hw 51 rfl))) (mvT hZ (ow hw 51 rfl)) (mvT hZ (ow hw 50 rfl)) (by decide) (backOf (W := 0) (rm_eqU l Z a0 hw [] oa la64 vcs vf ob kb lb64 kb64 (4 : Int32) [(.int lo0), (.int hi0), (.int lo1), (.int hi1)] (2 : Int32) [(.int 46), (.int 46)] h64 n0 Zs66 os68 f69 f70 f71 f72 A64 Fc64 Fv64 V64 (own_ne_cod f70 Fc64)) hZ (ow hw 52 rfl) (ow hw 8 rfl) (by decide) (by decide)) q73a q73c (g := (mkF m 19 #[.val (.ref oa)] [(.ref la64), (.ref oa)])) rfl (by rw [hml]; rfl) (Steps.refl _) (argsL := [(.ref la64)]) (rest := []) (lenOf pd_12 rfl) rfl (by exact Nat.le_of_eq rfl) (hb hby d5_19) (fun _ _ => ⟨rfl, e64, (by decide : 4 + 0 ≤ _), (by decide : 20 + 0 ≤ _)⟩)
    dsimp only [Pt.U, Pt.locs, Pt.cells, Pt.slots] at X73 l73 y73 z73 st73 hQ73
    rw [l73, y73, z73] at X73
    obtain ⟨zdd, rfl, hzdd, N73q, e73⟩ := hQ73
    have N73 := Fr.app N59 N73q
    have pre74 : oP p e below (T73.setTop (mkF m 22 #[.val (.ref oa)] [(.int zdd)])) (SS) := fun t kt => by
      refine pre67 _ ?_
      refine st73.trans ?_
      exact kt
    subst hzdd
    have pre75 : oP p e below (T73.setTop (mkF m 22 #[.val (.ref oa)] [(.int 0)])) (SS) := pre74
    have hc22_76 : (0 : Int) = (0 : Int) := by decide
    have pre77 : oP p e below (T73.setTop (mkF m 27 #[.val (.ref oa)] [(.int 0), (.ref oa)])) (SS) := fun t kt => by
      refine pre75 _ ?_
      refine XS.ifNo X73.here hx rfl (hb hby d5_22) rfl (own_if (own_teq (a := (0 : Int32)) (b := (0 : Int32)) (by decide) (by decide) hc22_76).2) ?_
      refine XS.aloadN X73.here hx rfl (hb hby d5_25) rfl rfl ?_
      refine XS.iconst X73.here hx rfl (hb hby d5_26) ?_
      exact kt
    have HH78 := rm_iu2 l Z a0 hw [] ob vcs vf kb lo0 hi0 lo1 hi1 h64 n0 Zs66 os68 f72
    obtain ⟨cq79, kq79, q79a, q79b, q79c⟩ := isOf hZ e73 f69
    obtain ⟨_, _, ⟨T79, L79, k79, n79⟩, -, X79, ⟨Lc79, hQ79, l79, y79, z79⟩, st79⟩ := X73.virtualBack hx (y := yn21) (z := yn21) hown (mvT hZ (ow hw 59 rfl)) (mvT hZ (ow hw 60 rfl)) (notFace_of_selects (args := #[]) (mvT hZ (ow hw 62 rfl))) (mvT hZ (ow hw 62 rfl)) (mvT hZ (ow hw 61 rfl)) (by decide) (backOf (W := 0) (rm_sx1 l Z a0 hw [] oa vcs vf ob kb (2 : Int32) (4 : Int32) [(.int lo0), (.int hi0), (.int lo1), (.int hi1)] (fun z => (0 ≤ z.toInt ∧ ((lo0.toInt % 256 + 256 * (hi0.toInt % 256)) = 0 ∨ (lo1.toInt % 256 + 256 * (hi1.toInt % 256)) = 0)) ∨ (z.toInt < 0 ∧ ¬ ((lo0.toInt % 256 + 256 * (hi0.toInt % 256)) = 0 ∨ (lo1.toInt % 256 + 256 * (hi1.toInt % 256)) = 0))) (Q_iu2 Z ob vcs vf kb lo0 hi0 lo1 hi1 h64 n0) h64 n0 Zs66 os68 f69 f70 f71 f72 (by decide) (by decide) (by decide) HH78 (fun _ _ _ q => q)) hZ (ow hw 63 rfl) (ow hw 8 rfl) (by decide) (by decide)) q79a q79c (g := (mkF m 27 #[.val (.ref oa)] [(.int 0), (.ref oa)])) rfl (by rw [hml]; rfl) (Steps.refl _) (argsL := [(.int 0)]) (rest := []) (lenOf pd_13 rfl) rfl (by exact Nat.le_of_eq rfl) (hb hby d5_27) (fun _ _ => ⟨rfl, e73, (by decide : 4 + 0 ≤ _), (by decide : 20 + 0 ≤ _)⟩)
    dsimp only [Pt.U, Pt.locs, Pt.cells, Pt.slots] at X79 l79 y79 z79 st79 hQ79
    rw [l79, y79, z79] at X79
    obtain ⟨zi, rfl, hzi, N79q, e79⟩ := hQ79
    have N79 := Fr.app N73 N79q
    have pre81 : oP p e below (T79.setTop (mkF m 30 #[.val (.ref oa)] [(.int zi)])) (SS) := fun t kt => by
      refine pre77 _ ?_
      refine st79.trans ?_
      exact kt
    by_cases hc30_80 : zi.toInt < (0 : Int)
    · subst hSS
      obtain ⟨fs, hr, hrun, hended, hREW⟩ := X79.leaveW hS64 (by rw [e79]; exact hk64) (v := some (.int 1)) (fun h => by rw [Bd.returns] at h; cases h)
      refine ⟨_, _, pre81 _ ?_, hrun, hended, _, _, rfl, ?_, ?_, ⟨hREW.1, hREW.2.1, hREW.2.2.1, hREW.2.2.2.mono (by decide) (by decide)⟩⟩
      · refine XS.ifNo X79.here hx rfl (hb hby d5_30) rfl (own_if (own_tlt (a := zi) (b := (0 : Int32)) rfl (by decide) hc30_80).2.1) ?_
        refine XS.iconst X79.here hx rfl (hb hby d5_33) ?_
        refine XS.goto X79.here hx rfl (pc0 := 34) (pc' := 38) rfl (hb hby d5_34) (by decide) (by decide) ?_
        exact retN X79 hx (t := .boolean) Bd.returns (by simp) (hb hby d5_38) hr
      · show Q_nm2 Z _ _ _ _ _ _ _ h0 n0 _ T79.heap _
        rw [e79]
        have f82 := (((Keep.refl h0 []).ext E50).ext E64)
        exact ⟨_, rfl, by have iv : ((1 : Int32)).toInt = (1 : Int) := (by decide); omega, N79, f82⟩
      · show CHr Z own_EL s.vm s.heap T79.vm T79.heap
        rw [hh, e79]
        exact CR65.trans (CHv.at X79 hZ hEL CR65.1)
    · subst hSS
      obtain ⟨fs, hr, hrun, hended, hREW⟩ := X79.leaveW hS64 (by rw [e79]; exact hk64) (v := some (.int 0)) (fun h => by rw [Bd.returns] at h; cases h)
      refine ⟨_, _, pre81 _ ?_, hrun, hended, _, _, rfl, ?_, ?_, ⟨hREW.1, hREW.2.1, hREW.2.2.1, hREW.2.2.2.mono (by decide) (by decide)⟩⟩
      · refine XS.ifYes X79.here hx rfl (pc0 := 30) (pc' := 37) rfl (hb hby d5_30) rfl (own_if (own_flt (a := zi) (b := (0 : Int32)) rfl (by decide) hc30_80).2.1) (by decide) (by decide) ?_
        refine XS.iconst X79.here hx rfl (hb hby d5_37) ?_
        exact retN X79 hx (t := .boolean) Bd.returns (by simp) (hb hby d5_38) hr
      · show Q_nm2 Z _ _ _ _ _ _ _ h0 n0 _ T79.heap _
        rw [e79]
        have f83 := (((Keep.refl h0 []).ext E50).ext E64)
        exact ⟨_, rfl, by have iv : ((0 : Int32)).toInt = (0 : Int) := (by decide); omega, N79, f83⟩
      · show CHr Z own_EL s.vm s.heap T79.vm T79.heap
        rw [hh, e79]
        exact CR65.trans (CHv.at X79 hZ hEL CR65.1)
theorem ef_rm_nbf2 (m : MethodId)  : entryFrame m #[(.int 2)] 1 = mkF m 0 #[.val (.int 2)] [] := by first | (simp [entryFrame, mkF, argsToLocals, Value.category]; done) | rfl
def Q_nbf2 (Z : State)  (h0 : Heap) (n0 : Nat) (v : Option Value) (h : Heap) (L : List Loc) : Prop := ∃ (ob : Addr) (kb : ClassId), v = some (.ref ob) ∧ Fr n0 L ∧ Keep h0 h [] ∧ n0 ≤ ob ∧ h0.size ≤ ob ∧ Arv Z h ob kb .byte (4 : Int32) [(.int 0), (.int 0), (.int 0), (.int 0)] (.int 0)
theorem rm_nbf2 (l : Launch) (Z : State) (a0 : Array Value) (hw : ∀ d ∈ tables_1, d.before a0 Z = true) (ws : List Jvm.Cond)  (h0 : Heap) (n0 : Nat) (Z0 : n0 ≤ h0.size) :
    MetFree l yn24 (head1 (Jvm.Cond.code yn24 kc24 1 (some (.array .byte)) :: ws) ⟨1, 1, 4, 12⟩) (fun a U => a = #[(.int 2)] ∧ Z.Warmed39 U.vm ∧ U.heap = h0) (fun _ _ _ _ _ => True) (fun _ U o U' => ∃ v L, o = .returned v ∧ Q_nbf2 Z  h0 n0 v U'.heap L ∧ FrameEnd U o U' L 1 4) := by
  refine MetFree.of_bodySF (plainFor_of_name pn_3) hisR ?_
  intro p e s m args below meth c s₁ Bd hml0 hP hK
  obtain ⟨rfl, hZ, hh⟩ := hP
  have hx := Bd.exec
  have hby := Bd.bytes
  have hml : c.maxLocals = 1 := hml0
  have hown : s.vm.findClass "java/lang/StringUTF16" = some m.cls := findClass_of_methodNamed Bd.named
  have hnm := (name_of_methodNamed Bd.named Bd.method).1
  have X0 : Stand p l e ⟨1, 1, 4, 12⟩ s m #[(.int 2)] below meth c s₁ [] 0 0 := Stand.of_body Bd
  have e0 : s₁.heap = h0 := by rw [← hh, Bd.state]; rfl
  have N0 := Fr.nil n0
  obtain ⟨SS, hSS⟩ : ∃ S, S = s₁.setTop (entryFrame m #[(.int 2)] 1) := ⟨_, rfl⟩
  have pre0 : oP p e below (s₁.setTop (mkF m 0 #[.val (.int 2)] [])) (SS) := by
    rw [hSS]; exact fun t k => castTop (ef_rm_nbf2 m ) k
  obtain ⟨_, _, ⟨T1, L1, k1, n1⟩, -, X1, ⟨Lc1, hQ1, l1, y1, z1⟩, st1⟩ := Jvm.LawKit.callS X0 hx (y := yn23) hown (mvT hZ (ow hw 106 rfl)) (mvT hZ (ow hw 107 rfl)) (mvT hZ (ow hw 39 rfl)) (mvT hZ (ow hw 108 rfl)) (by decide) (backOf (W := 0) (rm_nbl l Z a0 hw [] (2 : Int32) h0 n0 Z0 (by decide) (by decide)) hZ (ow hw 108 rfl) (ow hw 39 rfl) (by decide) (by decide)) (g := (mkF m 1 #[.val (.int 2)] [(.int 2)])) rfl (by rw [hml]; rfl) (argsL := [(.int 2)]) (rest := []) (lenOf pd_13 rfl) rfl (by exact Nat.le_of_eq rfl) (hb hby d23_1) (fun _ _ => ⟨rfl, e0, (by decide : 0 + 0 ≤ _), (by decide : 0 + 0 ≤ _)⟩)
  dsimp only [Pt.U, Pt.locs, Pt.cells, Pt.slots] at X1 l1 y1 z1 st1 hQ1
  rw [l1, y1, z1] at X1
  obtain ⟨zz, rfl, hzz, N1q, e1⟩ := hQ1
  have N1 := Fr.app N0 N1q
  have pre2 : oP p e below (T1.setTop (mkF m 4 #[.val (.int 2)] [(.int zz)])) (SS) := fun t kt => by
    refine pre0 _ ?_
    refine XS.iloadN X0.here hx rfl (hb hby d23_0) rfl ?_
    refine st1 _ ?_
    exact kt
  have ezz : zz = (4 : Int32) := Int32.toInt_inj.mp (by rw [hzz]; decide)
  subst ezz
  have pre3 : oP p e below (T1.setTop (mkF m 4 #[.val (.int 2)] [(.int 4)])) (SS) := pre2
  obtain ⟨T4, h4, k4, X4, e4, E4, A4, st4⟩ := newP X1 hx hZ (ow hw 20 rfl) e1 (g := (mkF m 4 #[.val (.int 2)] [(.int 4)])) rfl (hb hby d23_4) rfl (by decide) (cap := 4) (by decide) (by decide) (by decide) (by decide)
  obtain ⟨b4, g4⟩ : ∃ z, z = h0.size := ⟨_, rfl⟩
  have g_b4 : n0 ≤ b4 := Nat.le_trans Z0 (Nat.le_of_eq g4.symm)
  have sz_b4 : h0.size ≤ b4 := Nat.le_trans (Keep.refl h0 []).1 (Nat.le_of_eq g4.symm)
  rw [← g4] at A4 st4
  have Zs5 : n0 ≤ h4.size := Nat.le_trans Z0 E4.1
  have V4 : Arv Z h4 b4 k4 .byte (4 : Int32) [(.int 0), (.int 0), (.int 0), (.int 0)] (.int 0) := (Arv.new A4 (by decide)).pad (pad_rep [] (.int 0) 4)
  subst hSS
  obtain ⟨fs, hr, q1, q2, q3, q4⟩ := X4.leave (v := some (.ref b4)) (fun h => by rw [Bd.returns] at h; cases h)
  refine ⟨_, _, pre3 _ ?_, q1, q2, _, _, rfl, ?_, ⟨_, rfl⟩, q3, q4.mono (by decide) (by decide)⟩
  · refine st4 _ ?_
    jvm_step X4.here [X4.here.top, hx, (hb hby d23_6), X4.method', Bd.returns, Value.isRef, FieldType.isReference]
    first | (intro acts; rw [hr _ acts rfl rfl rfl]) | rw [hr _ _ rfl rfl rfl]
    exact Steps.refl _
  · show Q_nbf2 Z  h0 n0 _ T4.heap _
    rw [e4]
    have f6 := ((Keep.refl h0 []).ext E4)
    exact ⟨b4, _, rfl, N1, f6, g_b4, sz_b4, V4⟩
theorem ef_rm_tb2 (m : MethodId) (x0 : Addr) : entryFrame m #[(.ref x0), (.int 0), (.int 2)] 5 = mkF m 0 #[.val (.ref x0), .val (.int 0), .val (.int 2), .unset, .unset] [] := by first | (simp [entryFrame, mkF, argsToLocals, Value.category]; done) | rfl
def Q_tb2 (Z : State) (oc : Addr) (vcs : Int32) (vf : Value) (kC : ClassId) (c0 : Int32) (c1 : Int32) (h0 : Heap) (n0 : Nat) (v : Option Value) (h : Heap) (L : List Loc) : Prop := ∃ (ob : Addr) (kb : ClassId) (lo0 hi0 lo1 hi1 : Int32), v = some (.ref ob) ∧ Fr n0 L ∧ Keep h0 h [] ∧ n0 ≤ ob ∧ h0.size ≤ ob ∧ Arv Z h ob kb .byte (4 : Int32) [(.int lo0), (.int hi0), (.int lo1), (.int hi1)] (.int 0) ∧ lo0.toInt % 256 = c0.toInt % 256 ∧ hi0.toInt % 256 = c0.toInt / 256 ∧ lo1.toInt % 256 = c1.toInt % 256 ∧ hi1.toInt % 256 = c1.toInt / 256
theorem rm_tb2 (l : Launch) (Z : State) (a0 : Array Value) (hw : ∀ d ∈ tables_1, d.before a0 Z = true) (ws : List Jvm.Cond) (oc : Addr) (vcs : Int32) (vf : Value) (kC : ClassId) (c0 : Int32) (c1 : Int32) (h0 : Heap) (n0 : Nat) (Z0 : n0 ≤ h0.size) (Os : own_st Z h0 vcs vf) (Vc : Arv Z h0 oc kC .char (2 : Int32) [(.int c0), (.int c1)] (.int 0)) (uc0 : 0 ≤ c0.toInt) (uc1 : 0 ≤ c1.toInt) (vc0 : c0.toInt < 65536) (vc1 : c1.toInt < 65536) :
    MetFree l yn26 (head1 (Jvm.Cond.code yn26 kc26 5 (some (.array .byte)) :: ws) ⟨2, 1, 4, 24⟩) (fun a U => a = #[(.ref oc), (.int 0), (.int 2)] ∧ Z.Warmed39 U.vm ∧ U.heap = h0) (fun _ _ _ _ _ => True) (fun _ U o U' => ∃ v L, o = .returned v ∧ Q_tb2 Z oc vcs vf kC c0 c1 h0 n0 v U'.heap L ∧ FrameEnd U o U' L 1 4) := by
  refine MetFree.of_bodySF (plainFor_of_name pn_3) hisR ?_
  intro p e s m args below meth c s₁ Bd hml0 hP hK
  obtain ⟨rfl, hZ, hh⟩ := hP
  have hx := Bd.exec
  have hby := Bd.bytes
  have hml : c.maxLocals = 5 := hml0
  have hown : s.vm.findClass "java/lang/StringUTF16" = some m.cls := findClass_of_methodNamed Bd.named
  have hnm := (name_of_methodNamed Bd.named Bd.method).1
  have X0 : Stand p l e ⟨2, 1, 4, 24⟩ s m #[(.ref oc), (.int 0), (.int 2)] below meth c s₁ [] 0 0 := Stand.of_body Bd
  have e0 : s₁.heap = h0 := by rw [← hh, Bd.state]; rfl
  have N0 := Fr.nil n0
  obtain ⟨SS, hSS⟩ : ∃ S, S = s₁.setTop (entryFrame m #[(.ref oc), (.int 0), (.int 2)] 5) := ⟨_, rfl⟩
  have pre0 : oP p e below (s₁.setTop (mkF m 0 #[.val (.ref oc), .val (.int 0), .val (.int 2), .unset, .unset] [])) (SS) := by
    rw [hSS]; exact fun t k => castTop (ef_rm_tb2 m oc) k
  obtain ⟨_, _, ⟨T1, L1, k1, n1⟩, -, X1, ⟨Lc1, hQ1, l1, y1, z1⟩, st1⟩ := Jvm.LawKit.callS X0 hx (y := yn24) hown (mvT hZ (ow hw 103 rfl)) (mvT hZ (ow hw 104 rfl)) (mvT hZ (ow hw 39 rfl)) (mvT hZ (ow hw 105 rfl)) (by decide) (backOf (W := 0) (rm_nbf2 l Z a0 hw []  h0 n0 Z0 ) hZ (ow hw 105 rfl) (ow hw 39 rfl) (by decide) (by decide)) (g := (mkF m 1 #[.val (.ref oc), .val (.int 0), .val (.int 2), .unset, .unset] [(.int 2)])) rfl (by rw [hml]; rfl) (argsL := [(.int 2)]) (rest := []) (lenOf pd_14 rfl) rfl (by exact Nat.le_of_eq rfl) (hb hby d22_1) (fun _ _ => ⟨rfl, e0, (by decide : 0 + 1 ≤ _), (by decide : 0 + 4 ≤ _)⟩)
  dsimp only [Pt.U, Pt.locs, Pt.cells, Pt.slots] at X1 l1 y1 z1 st1 hQ1
  rw [l1, y1, z1] at X1
  obtain ⟨ob, kb, rfl, N1q, K1, gb, szb, Vb1⟩ := hQ1
  have N1 := Fr.app N0 N1q
  have Zs2 : n0 ≤ T1.heap.size := Nat.le_trans Z0 K1.1
  have ne_oc_ob : oc ≠ ob := Nat.ne_of_lt (Nat.lt_of_lt_of_le Vc.lt szb)
  have sz_ob : h0.size ≤ ob := Nat.le_trans (Keep.refl h0 []).1 szb
  have hc11_3 : (0 : Int) < (2 : Int) := by decide
  have f4 := (Vc.keep K1 nin0)
  obtain ⟨cl5, Ar5, q5, S5, M5, H5, G5⟩ := id f4
  have hin5 : ¬ ((0 : Int32) < 0 ∨ cl5.slots.size ≤ ((0 : Int32)).toNatClampNeg) := inb_of S5 ⟨by decide, by decide⟩
  have hat5 : cl5.slots[((0 : Int32)).toNatClampNeg]? = some (.int c0) := Has.at H5 hin5 rfl
  have os7 := (own_st_keep Os K1 ns0)
  obtain ⟨_, _, ⟨T6, L6, k6, n6⟩, -, X6, ⟨Lc6, hQ6, l6, y6, z6⟩, st6⟩ := Jvm.LawKit.callS X1 hx (y := yn25) hown (mvT hZ (ow hw 110 rfl)) (mvT hZ (ow hw 111 rfl)) (mvT hZ (ow hw 39 rfl)) (mvT hZ (ow hw 112 rfl)) (by decide) (backOf (W := 0) (rm_pc l Z a0 hw [] ob (0 : Int32) c0 vcs vf kb (4 : Int32) [(.int 0), (.int 0), (.int 0), (.int 0)] 0 T1.heap n0 Zs2 os7 Vb1 gb (by decide) (by decide) (by decide) (Nat.le_of_ble_eq_true rfl) uc0 vc0) hZ (ow hw 112 rfl) (ow hw 39 rfl) (by decide) (by decide)) (g := (mkF m 20 #[.val (.ref oc), .val (.int 0), .val (.int 2), .val (.ref ob), .val (.int 0)] [(.int c0), (.int 0), (.ref ob)])) rfl (by rw [hml]; rfl) (argsL := [(.ref ob), (.int 0), (.int c0)]) (rest := []) (lenOf pd_15 rfl) rfl (by exact Nat.le_of_eq rfl) (hb hby d22_20) (fun _ _ => ⟨rfl, rfl, (by decide : 1 + 0 ≤ _), (by decide : 4 + 0 ≤ _)⟩)
  dsimp only [Pt.U, Pt.locs, Pt.cells, Pt.slots] at X6 l6 y6 z6 st6 hQ6
  rw [l6, y6, z6] at X6
  obtain ⟨lo0, hi0, rfl, N6q, K6, Vb6, ql0, qh0⟩ := hQ6
  have N6 := Fr.app N1 N6q
  have Zs8 : n0 ≤ T6.heap.size := Nat.le_trans Zs2 K6.1
  have Vb6 : Arv Z T6.heap ob kb .byte (4 : Int32) [(.int lo0), (.int hi0), (.int 0), (.int 0)] (.int 0) := Vb6
  have hc11_9 : (1 : Int) < (2 : Int) := by decide
  have f10 := (f4.keep K6 (ninS ne_oc_ob nin0))
  obtain ⟨cl11, Ar11, q11, S11, M11, H11, G11⟩ := id f10
  have hin11 : ¬ ((1 : Int32) < 0 ∨ cl11.slots.size ≤ ((1 : Int32)).toNatClampNeg) := inb_of S11 ⟨by decide, by decide⟩
  have hat11 : cl11.slots[((1 : Int32)).toNatClampNeg]? = some (.int c1) := Has.at H11 hin11 rfl
  have os13 := (own_st_keep os7 K6 (nsS Vb1.nostat ns0))
  obtain ⟨_, _, ⟨T12, L12, k12, n12⟩, -, X12, ⟨Lc12, hQ12, l12, y12, z12⟩, st12⟩ := Jvm.LawKit.callS X6 hx (y := yn25) hown (mvT hZ (ow hw 110 rfl)) (mvT hZ (ow hw 111 rfl)) (mvT hZ (ow hw 39 rfl)) (mvT hZ (ow hw 112 rfl)) (by decide) (backOf (W := 0) (rm_pc l Z a0 hw [] ob (1 : Int32) c1 vcs vf kb (4 : Int32) [(.int lo0), (.int hi0), (.int 0), (.int 0)] 1 T6.heap n0 Zs8 os13 Vb6 gb (by decide) (by decide) (by decide) (Nat.le_of_ble_eq_true rfl) uc1 vc1) hZ (ow hw 112 rfl) (ow hw 39 rfl) (by decide) (by decide)) (g := (mkF m 20 #[.val (.ref oc), .val (.int 1), .val (.int 2), .val (.ref ob), .val (.int 1)] [(.int c1), (.int 1), (.ref ob)])) rfl (by rw [hml]; rfl) (argsL := [(.ref ob), (.int 1), (.int c1)]) (rest := []) (lenOf pd_15 rfl) rfl (by exact Nat.le_of_eq rfl) (hb hby d22_20) (fun _ _ => ⟨rfl, rfl, (by decide : 1 + 0 ≤ _), (by decide : 4 + 0 ≤ _)⟩)
  dsimp only [Pt.U, Pt.locs, Pt.cells, Pt.slots] at X12 l12 y12 z12 st12 hQ12
  rw [l12, y12, z12] at X12
  obtain ⟨lo1, hi1, rfl, N12q, K12, Vb12, ql1, qh1⟩ := hQ12
  have N12 := Fr.app N6 N12q
  have Zs14 : n0 ≤ T12.heap.size := Nat.le_trans Zs8 K12.1
  have Vb12 : Arv Z T12.heap ob kb .byte (4 : Int32) [(.int lo0), (.int hi0), (.int lo1), (.int hi1)] (.int 0) := Vb12
  have hc11_15 : ¬ ((2 : Int) < (2 : Int)) := by decide
  subst hSS
  obtain ⟨fs, hr, q1, q2, q3, q4⟩ := X12.leave (v := some (.ref ob)) (fun h => by rw [Bd.returns] at h; cases h)
  refine ⟨_, _, pre0 _ ?_, q1, q2, _, _, rfl, ?_, ⟨_, rfl⟩, q3, q4.mono (by decide) (by decide)⟩
  · refine XS.iloadN X0.here hx rfl (hb hby d22_0) rfl ?_
    refine st1 _ ?_
    refine XS.astoreN X1.here hx rfl (hb hby d22_4) rfl rfl (l' := #[.val (.ref oc), .val (.int 0), .val (.int 2), .val (.ref ob), .unset]) rfl ?_
    refine XS.iconst X1.here hx rfl (hb hby d22_5) ?_
    refine XS.istore X1.here hx rfl (hb hby d22_6) rfl (l' := #[.val (.ref oc), .val (.int 0), .val (.int 2), .val (.ref ob), .val (.int 0)]) rfl ?_
    refine XS.iload X1.here hx rfl (hb hby d22_8) rfl ?_
    refine XS.iloadN X1.here hx rfl (hb hby d22_10) rfl ?_
    refine XS.icmpNo X1.here hx rfl (hb hby d22_11) rfl (own_tlt (a := (0 : Int32)) (b := (2 : Int32)) (by decide) (by decide) hc11_3).2.1 ?_
    refine XS.aloadN X1.here hx rfl (hb hby d22_14) rfl rfl ?_
    refine XS.iload X1.here hx rfl (hb hby d22_15) rfl ?_
    refine XS.aloadN X1.here hx rfl (hb hby d22_17) rfl rfl ?_
    refine XS.iloadN X1.here hx rfl (hb hby d22_18) rfl ?_
    refine X1.caload hx (j := (0 : Int32)) (v := (.int c0)) Ar5.1 (State.isArrayOf_alike hZ.alike Ar5.2.1) Ar5.2.2 hin5 hat5 (g := (mkF m 19 #[.val (.ref oc), .val (.int 0), .val (.int 2), .val (.ref ob), .val (.int 0)] [(.int 0), (.ref oc), (.int 0), (.ref ob)])) rfl rfl (hb hby d22_19) _ ?_
    refine st6 _ ?_
    refine XS.iinc X6.here hx rfl (hb hby d22_23) rfl (l' := #[.val (.ref oc), .val (.int 1), .val (.int 2), .val (.ref ob), .val (.int 0)]) rfl ?_
    refine XS.iinc X6.here hx rfl (hb hby d22_26) rfl (l' := #[.val (.ref oc), .val (.int 1), .val (.int 2), .val (.ref ob), .val (.int 1)]) rfl ?_
    refine XS.goto X6.here hx rfl (pc0 := 29) (pc' := 8) rfl (hb hby d22_29) (by decide) (by decide) ?_
    refine XS.iload X6.here hx rfl (hb hby d22_8) rfl ?_
    refine XS.iloadN X6.here hx rfl (hb hby d22_10) rfl ?_
    show Steps p.tables e below (T6.setTop (mkF m 11 #[.val (.ref oc), .val (.int 1), .val (.int 2), .val (.ref ob), .val (.int 1)] [(.int 2), (.int 1)])) _
    refine XS.icmpNo X6.here hx rfl (hb hby d22_11) rfl (own_tlt (a := (1 : Int32)) (b := (2 : Int32)) (by decide) (by decide) hc11_9).2.1 ?_
    refine XS.aloadN X6.here hx rfl (hb hby d22_14) rfl rfl ?_
    refine XS.iload X6.here hx rfl (hb hby d22_15) rfl ?_
    refine XS.aloadN X6.here hx rfl (hb hby d22_17) rfl rfl ?_
    refine XS.iloadN X6.here hx rfl (hb hby d22_18) rfl ?_
    refine X6.caload hx (j := (1 : Int32)) (v := (.int c1)) Ar11.1 (State.isArrayOf_alike hZ.alike Ar11.2.1) Ar11.2.2 hin11 hat11 (g := (mkF m 19 #[.val (.ref oc), .val (.int 1), .val (.int 2), .val (.ref ob), .val (.int 1)] [(.int 1), (.ref oc), (.int 1), (.ref ob)])) rfl rfl (hb hby d22_19) _ ?_
    refine st12 _ ?_
    refine XS.iinc X12.here hx rfl (hb hby d22_23) rfl (l' := #[.val (.ref oc), .val (.int 2), .val (.int 2), .val (.ref ob), .val (.int 1)]) rfl ?_
    refine XS.iinc X12.here hx rfl (hb hby d22_26) rfl (l' := #[.val (.ref oc), .val (.int 2), .val (.int 2), .val (.ref ob), .val (.int 2)]) rfl ?_
    refine XS.goto X12.here hx rfl (pc0 := 29) (pc' := 8) rfl (hb hby d22_29) (by decide) (by decide) ?_
    refine XS.iload X12.here hx rfl (hb hby d22_8) rfl ?_
    refine XS.iloadN X12.here hx rfl (hb hby d22_10) rfl ?_
    refine XS.icmpYes X12.here hx rfl (pc0 := 11) (pc' := 32) rfl (hb hby d22_11) rfl (own_flt (a := (2 : Int32)) (b := (2 : Int32)) (by decide) (by decide) hc11_15).2.1 (by decide) (by decide) ?_
    refine XS.aloadN X12.here hx rfl (hb hby d22_32) rfl rfl ?_
    jvm_step X12.here [X12.here.top, hx, (hb hby d22_33), X12.method', Bd.returns, Value.isRef, FieldType.isReference]
    first | (intro acts; rw [hr _ acts rfl rfl rfl]) | rw [hr _ _ rfl rfl rfl]
    exact Steps.refl _
  · show Q_tb2 Z _ _ _ _ _ _ h0 n0 _ T12.heap _
    have f16 := ((((Keep.refl h0 []).trans K1 all0).trans K6 (allS (P := fun x => x ∈ [] ∨ h0.size ≤ x) (Or.inr sz_ob) all0)).trans K12 (allS (P := fun x => x ∈ [] ∨ h0.size ≤ x) (Or.inr sz_ob) all0))
    exact ⟨ob, kb, lo0, hi0, lo1, hi1, rfl, N12, f16, gb, sz_ob, Vb12, ql0, qh0, ql1, qh1⟩
theorem ef_rm_cq2 (m : MethodId) (x0 : Addr) (x2 : Addr) : entryFrame m #[(.ref x0), (.int 0), (.ref x2), (.int 0), (.int 2)] 7 = mkF m 0 #[.val (.ref x0), .val (.int 0), .val (.ref x2), .val (.int 0), .val (.int 2), .unset, .unset] [] := by first | (simp [entryFrame, mkF, argsToLocals, Value.category]; done) | rfl
def Q_cq2 (Z : State) (oc : Addr) (ob : Addr) (kC : ClassId) (c0 : Int32) (c1 : Int32) (kb : ClassId) (h0 : Heap) (n0 : Nat) (v : Option Value) (h : Heap) (L : List Loc) : Prop := Fr n0 L ∧ Keep h0 h [ob] ∧ ((v = some (.int 2) ∧ (c0.toInt ≤ 255 ∧ c1.toInt ≤ 255) ∧ ∃ bb0 bb1 : Int32, Arv Z h ob kb .byte (2 : Int32) [(.int bb0), (.int bb1)] (.int 0) ∧ bb0.toInt % 256 = c0.toInt ∧ bb1.toInt % 256 = c1.toInt) ∨ (v = some (.int 0) ∧ 255 < c0.toInt ∧ ∃ vs, Arv Z h ob kb .byte (2 : Int32) vs (.int 0)) ∨ (v = some (.int 1) ∧ 255 < c1.toInt ∧ ∃ vs, Arv Z h ob kb .byte (2 : Int32) vs (.int 0)))
theorem rm_cq2 (l : Launch) (Z : State) (a0 : Array Value) (hw : ∀ d ∈ tables_1, d.before a0 Z = true) (ws : List Jvm.Cond) (oc : Addr) (ob : Addr) (kC : ClassId) (c0 : Int32) (c1 : Int32) (kb : ClassId) (h0 : Heap) (n0 : Nat) (Z0 : n0 ≤ h0.size) (Vc : Arv Z h0 oc kC .char (2 : Int32) [(.int c0), (.int c1)] (.int 0)) (uc0 : 0 ≤ c0.toInt) (uc1 : 0 ≤ c1.toInt) (vc0 : c0.toInt < 65536) (vc1 : c1.toInt < 65536) (Vb : Arv Z h0 ob kb .byte (2 : Int32) [(.int 0), (.int 0)] (.int 0)) (gb : n0 ≤ ob) (ncb : oc ≠ ob) :
    MetFree l yn27 (head1 (Jvm.Cond.code yn27 kc27 7 (some .int) :: ws) ⟨0, 0, 0, 0⟩) (fun a U => a = #[(.ref oc), (.int 0), (.ref ob), (.int 0), (.int 2)] ∧ Z.Warmed39 U.vm ∧ U.heap = h0) (fun _ _ _ _ _ => True) (fun _ U o U' => ∃ v L, o = .returned v ∧ Q_cq2 Z oc ob kC c0 c1 kb h0 n0 v U'.heap L ∧ FrameEnd U o U' L 0 0) := by
  refine MetFree.of_bodySF (plainFor_of_name pn_3) hisR ?_
  intro p e s m args below meth c s₁ Bd hml0 hP hK
  obtain ⟨rfl, hZ, hh⟩ := hP
  have hx := Bd.exec
  have hby := Bd.bytes
  have hml : c.maxLocals = 7 := hml0
  have hown : s.vm.findClass "java/lang/StringUTF16" = some m.cls := findClass_of_methodNamed Bd.named
  have hnm := (name_of_methodNamed Bd.named Bd.method).1
  have X0 : Stand p l e ⟨0, 0, 0, 0⟩ s m #[(.ref oc), (.int 0), (.ref ob), (.int 0), (.int 2)] below meth c s₁ [] 0 0 := Stand.of_body Bd
  have e0 : s₁.heap = h0 := by rw [← hh, Bd.state]; rfl
  have N0 := Fr.nil n0
  obtain ⟨SS, hSS⟩ : ∃ S, S = s₁.setTop (entryFrame m #[(.ref oc), (.int 0), (.ref ob), (.int 0), (.int 2)] 7) := ⟨_, rfl⟩
  have pre0 : oP p e below (s₁.setTop (mkF m 0 #[.val (.ref oc), .val (.int 0), .val (.ref ob), .val (.int 0), .val (.int 2), .unset, .unset] [])) (SS) := by
    rw [hSS]; exact fun t k => castTop (ef_rm_cq2 m oc ob) k
  have hc7_1 : (0 : Int) < (2 : Int) := by decide
  obtain ⟨cl2, Ar2, q2, S2, M2, H2, G2⟩ := id Vc
  have hin2 : ¬ ((0 : Int32) < 0 ∨ cl2.slots.size ≤ ((0 : Int32)).toNatClampNeg) := inb_of S2 ⟨by decide, by decide⟩
  have hat2 : cl2.slots[((0 : Int32)).toNatClampNeg]? = some (.int c0) := Has.at H2 hin2 rfl
  have pre4 : oP p e below (s₁.setTop (mkF m 20 #[.val (.ref oc), .val (.int 0), .val (.ref ob), .val (.int 0), .val (.int 2), .val (.int 0), .val (.int c0)] [(.int 255), (.int c0)])) (SS) := fun t kt => by
    refine pre0 _ ?_
    refine XS.iconst X0.here hx rfl (hb hby d8_0) ?_
    refine XS.istore X0.here hx rfl (hb hby d8_1) rfl (l' := #[.val (.ref oc), .val (.int 0), .val (.ref ob), .val (.int 0), .val (.int 2), .val (.int 0), .unset]) rfl ?_
    refine XS.iload X0.here hx rfl (hb hby d8_3) rfl ?_
    refine XS.iload X0.here hx rfl (hb hby d8_5) rfl ?_
    refine XS.icmpNo X0.here hx rfl (hb hby d8_7) rfl (own_tlt (a := (0 : Int32)) (b := (2 : Int32)) (by decide) (by decide) hc7_1).2.1 ?_
    refine XS.aloadN X0.here hx rfl (hb hby d8_10) rfl rfl ?_
    refine XS.iloadN X0.here hx rfl (hb hby d8_11) rfl ?_
    refine X0.caload hx (j := (0 : Int32)) (v := (.int c0)) (by rw [e0]; exact Ar2.1) (State.isArrayOf_alike hZ.alike Ar2.2.1) Ar2.2.2 hin2 hat2 (g := (mkF m 12 #[.val (.ref oc), .val (.int 0), .val (.ref ob), .val (.int 0), .val (.int 2), .val (.int 0), .unset] [(.int 0), (.ref oc)])) rfl rfl (hb hby d8_12) _ ?_
    refine XS.istore X0.here hx rfl (hb hby d8_13) rfl (l' := #[.val (.ref oc), .val (.int 0), .val (.ref ob), .val (.int 0), .val (.int 2), .val (.int 0), .val (.int c0)]) rfl ?_
    refine XS.iload X0.here hx rfl (hb hby d8_15) rfl ?_
    refine XS.sipush X0.here hx rfl (hb hby d8_17) ?_
    exact kt
  by_cases hc20_3 : (255 : Int) < c0.toInt
  · subst hSS
    obtain ⟨fs, hr, q1, q2, q3, q4⟩ := X0.leave (v := some (.int 0)) (fun h => by rw [Bd.returns] at h; cases h)
    refine ⟨_, _, pre4 _ ?_, q1, q2, _, _, rfl, ?_, ⟨_, rfl⟩, q3, q4.mono (by decide) (by decide)⟩
    · refine XS.icmpNo X0.here hx rfl (hb hby d8_20) rfl (own_tlt (a := (255 : Int32)) (b := c0) (by decide) rfl hc20_3).2.2.2 ?_
      refine XS.iload X0.here hx rfl (hb hby d8_23) rfl ?_
      exact retI X0 hx Bd.returns (hb hby d8_25) hr
    · show Q_cq2 Z _ _ _ _ _ _ h0 n0 _ s₁.heap _
      rw [e0]
      exact ⟨N0, (Keep.refl h0 [ob]), Or.inr (Or.inl ⟨rfl, by omega, _, Vb⟩)⟩
  · obtain ⟨cl5, Ar5, q5, S5, M5, H5, G5⟩ := id Vb
    have hin5 : ¬ ((0 : Int32) < 0 ∨ cl5.slots.size ≤ ((0 : Int32)).toNatClampNeg) := inb_of S5 ⟨by decide, by decide⟩
    obtain ⟨T6, h6, X6, e6, W6, st6⟩ := stB X0 hx hZ e0 Ar5 (j := (0 : Int32)) hin5 (g := (mkF m 31 #[.val (.ref oc), .val (.int 0), .val (.ref ob), .val (.int 0), .val (.int 2), .val (.int 0), .val (.int c0)] [(.int (c0.toInt8.toInt32)), (.int 0), (.ref ob)])) rfl rfl (hb hby d8_31)
    have N6 := Fr.snoc X6 N0 gb
    have Zs7 : n0 ≤ h6.size := by rw [W6.size]; exact Z0
    have V6 : Arv Z h6 ob kb .byte (2 : Int32) [(.int (nar .byte (c0.toInt8.toInt32))), (.int 0)] (.int 0) := Arv.set Ar5 q5 S5 M5 H5 G5 (fits_nar_byte _) W6 0 rfl (Nat.le_of_ble_eq_true rfl)
    have hc7_8 : (1 : Int) < (2 : Int) := by decide
    have f9 := (Vc.other W6 ncb)
    obtain ⟨cl10, Ar10, q10, S10, M10, H10, G10⟩ := id f9
    have hin10 : ¬ ((1 : Int32) < 0 ∨ cl10.slots.size ≤ ((1 : Int32)).toNatClampNeg) := inb_of S10 ⟨by decide, by decide⟩
    have hat10 : cl10.slots[((1 : Int32)).toNatClampNeg]? = some (.int c1) := Has.at H10 hin10 rfl
    have pre12 : oP p e below (T6.setTop (mkF m 20 #[.val (.ref oc), .val (.int 1), .val (.ref ob), .val (.int 1), .val (.int 2), .val (.int 1), .val (.int c1)] [(.int 255), (.int c1)])) (SS) := fun t kt => by
      refine pre4 _ ?_
      refine XS.icmpYes X0.here hx rfl (pc0 := 20) (pc' := 26) rfl (hb hby d8_20) rfl (own_flt (a := (255 : Int32)) (b := c0) (by decide) rfl hc20_3).2.2.2 (by decide) (by decide) ?_
      refine XS.aloadN X0.here hx rfl (hb hby d8_26) rfl rfl ?_
      refine XS.iloadN X0.here hx rfl (hb hby d8_27) rfl ?_
      refine XS.iload X0.here hx rfl (hb hby d8_28) rfl ?_
      refine XS.i2b X0.here hx rfl (hb hby d8_30) rfl ?_
      refine st6 _ ?_
      refine XS.iinc X6.here hx rfl (hb hby d8_32) rfl (l' := #[.val (.ref oc), .val (.int 1), .val (.ref ob), .val (.int 0), .val (.int 2), .val (.int 0), .val (.int c0)]) rfl ?_
      refine XS.iinc X6.here hx rfl (hb hby d8_35) rfl (l' := #[.val (.ref oc), .val (.int 1), .val (.ref ob), .val (.int 1), .val (.int 2), .val (.int 0), .val (.int c0)]) rfl ?_
      show Steps p.tables e below (T6.setTop (mkF m 38 #[.val (.ref oc), .val (.int 1), .val (.ref ob), .val (.int 1), .val (.int 2), .val (.int 0), .val (.int c0)] [])) _
      refine XS.iinc X6.here hx rfl (hb hby d8_38) rfl (l' := #[.val (.ref oc), .val (.int 1), .val (.ref ob), .val (.int 1), .val (.int 2), .val (.int 1), .val (.int c0)]) rfl ?_
      refine XS.goto X6.here hx rfl (pc0 := 41) (pc' := 3) rfl (hb hby d8_41) (by decide) (by decide) ?_
      refine XS.iload X6.here hx rfl (hb hby d8_3) rfl ?_
      refine XS.iload X6.here hx rfl (hb hby d8_5) rfl ?_
      refine XS.icmpNo X6.here hx rfl (hb hby d8_7) rfl (own_tlt (a := (1 : Int32)) (b := (2 : Int32)) (by decide) (by decide) hc7_8).2.1 ?_
      refine XS.aloadN X6.here hx rfl (hb hby d8_10) rfl rfl ?_
      refine XS.iloadN X6.here hx rfl (hb hby d8_11) rfl ?_
      refine X6.caload hx (j := (1 : Int32)) (v := (.int c1)) (by rw [e6]; exact Ar10.1) (State.isArrayOf_alike hZ.alike Ar10.2.1) Ar10.2.2 hin10 hat10 (g := (mkF m 12 #[.val (.ref oc), .val (.int 1), .val (.ref ob), .val (.int 1), .val (.int 2), .val (.int 1), .val (.int c0)] [(.int 1), (.ref oc)])) rfl rfl (hb hby d8_12) _ ?_
      refine XS.istore X6.here hx rfl (hb hby d8_13) rfl (l' := #[.val (.ref oc), .val (.int 1), .val (.ref ob), .val (.int 1), .val (.int 2), .val (.int 1), .val (.int c1)]) rfl ?_
      refine XS.iload X6.here hx rfl (hb hby d8_15) rfl ?_
      refine XS.sipush X6.here hx rfl (hb hby d8_17) ?_
      exact kt
    by_cases hc20_11 : (255 : Int) < c1.toInt
    · subst hSS
      obtain ⟨fs, hr, q1, q2, q3, q4⟩ := X6.leave (v := some (.int 1)) (fun h => by rw [Bd.returns] at h; cases h)
      refine ⟨_, _, pre12 _ ?_, q1, q2, _, _, rfl, ?_, ⟨_, rfl⟩, q3, q4.mono (by decide) (by decide)⟩
      · refine XS.icmpNo X6.here hx rfl (hb hby d8_20) rfl (own_tlt (a := (255 : Int32)) (b := c1) (by decide) rfl hc20_11).2.2.2 ?_
        refine XS.iload X6.here hx rfl (hb hby d8_23) rfl ?_
        exact retI X6 hx Bd.returns (hb hby d8_25) hr
      · show Q_cq2 Z _ _ _ _ _ _ h0 n0 _ T6.heap _
        rw [e6]
        have f13 := ((Keep.refl h0 [ob]).wr W6 (Or.inl (List.mem_of_getElem? (i := 0) rfl)))
        exact ⟨N6, f13, Or.inr (Or.inr (⟨rfl, by omega, _, V6⟩))⟩
    · obtain ⟨cl14, Ar14, q14, S14, M14, H14, G14⟩ := id V6
      have hin14 : ¬ ((1 : Int32) < 0 ∨ cl14.slots.size ≤ ((1 : Int32)).toNatClampNeg) := inb_of S14 ⟨by decide, by decide⟩
      obtain ⟨T15, h15, X15, e15, W15, st15⟩ := stB X6 hx hZ e6 Ar14 (j := (1 : Int32)) hin14 (g := (mkF m 31 #[.val (.ref oc), .val (.int 1), .val (.ref ob), .val (.int 1), .val (.int 2), .val (.int 1), .val (.int c1)] [(.int (c1.toInt8.toInt32)), (.int 1), (.ref ob)])) rfl rfl (hb hby d8_31)
      have N15 := Fr.snoc X15 N6 gb
      have Zs16 : n0 ≤ h15.size := by rw [W15.size]; exact Zs7
      have V15 : Arv Z h15 ob kb .byte (2 : Int32) [(.int (nar .byte (c0.toInt8.toInt32))), (.int (nar .byte (c1.toInt8.toInt32)))] (.int 0) := Arv.set Ar14 q14 S14 M14 H14 G14 (fits_nar_byte _) W15 1 rfl (Nat.le_of_ble_eq_true rfl)
      have hc7_17 : ¬ ((2 : Int) < (2 : Int)) := by decide
      subst hSS
      obtain ⟨fs, hr, q1, q2, q3, q4⟩ := X15.leave (v := some (.int 2)) (fun h => by rw [Bd.returns] at h; cases h)
      refine ⟨_, _, pre12 _ ?_, q1, q2, _, _, rfl, ?_, ⟨_, rfl⟩, q3, q4.mono (by decide) (by decide)⟩
      · refine XS.icmpYes X6.here hx rfl (pc0 := 20) (pc' := 26) rfl (hb hby d8_20) rfl (own_flt (a := (255 : Int32)) (b := c1) (by decide) rfl hc20_11).2.2.2 (by decide) (by decide) ?_
        refine XS.aloadN X6.here hx rfl (hb hby d8_26) rfl rfl ?_
        refine XS.iloadN X6.here hx rfl (hb hby d8_27) rfl ?_
        refine XS.iload X6.here hx rfl (hb hby d8_28) rfl ?_
        refine XS.i2b X6.here hx rfl (hb hby d8_30) rfl ?_
        refine st15 _ ?_
        refine XS.iinc X15.here hx rfl (hb hby d8_32) rfl (l' := #[.val (.ref oc), .val (.int 2), .val (.ref ob), .val (.int 1), .val (.int 2), .val (.int 1), .val (.int c1)]) rfl ?_
        refine XS.iinc X15.here hx rfl (hb hby d8_35) rfl (l' := #[.val (.ref oc), .val (.int 2), .val (.ref ob), .val (.int 2), .val (.int 2), .val (.int 1), .val (.int c1)]) rfl ?_
        refine XS.iinc X15.here hx rfl (hb hby d8_38) rfl (l' := #[.val (.ref oc), .val (.int 2), .val (.ref ob), .val (.int 2), .val (.int 2), .val (.int 2), .val (.int c1)]) rfl ?_
        show Steps p.tables e below (T15.setTop (mkF m 41 #[.val (.ref oc), .val (.int 2), .val (.ref ob), .val (.int 2), .val (.int 2), .val (.int 2), .val (.int c1)] [])) _
        refine XS.goto X15.here hx rfl (pc0 := 41) (pc' := 3) rfl (hb hby d8_41) (by decide) (by decide) ?_
        refine XS.iload X15.here hx rfl (hb hby d8_3) rfl ?_
        refine XS.iload X15.here hx rfl (hb hby d8_5) rfl ?_
        refine XS.icmpYes X15.here hx rfl (pc0 := 7) (pc' := 44) rfl (hb hby d8_7) rfl (own_flt (a := (2 : Int32)) (b := (2 : Int32)) (by decide) (by decide) hc7_17).2.1 (by decide) (by decide) ?_
        refine XS.iload X15.here hx rfl (hb hby d8_44) rfl ?_
        exact retI X15 hx Bd.returns (hb hby d8_46) hr
      · show Q_cq2 Z _ _ _ _ _ _ h0 n0 _ T15.heap _
        rw [e15]
        have f18 := (((Keep.refl h0 [ob]).wr W6 (Or.inl (List.mem_of_getElem? (i := 0) rfl))).wr W15 (Or.inl (List.mem_of_getElem? (i := 0) rfl)))
        exact ⟨N15, f18, Or.inl ⟨rfl, ⟨by omega, by omega⟩, _, _, V15, own_b2 c0 uc0 (by omega), own_b2 c1 uc1 (by omega)⟩⟩
theorem ef_rm_cr2 (m : MethodId) (x0 : Addr) : entryFrame m #[(.ref x0), (.int 0), (.int 2)] 6 = mkF m 0 #[.val (.ref x0), .val (.int 0), .val (.int 2), .unset, .unset, .unset] [] := by first | (simp [entryFrame, mkF, argsToLocals, Value.category]; done) | rfl
def Q_cr2 (Z : State) (oc : Addr) (vcs : Int32) (vf : Value) (kC : ClassId) (c0 : Int32) (c1 : Int32) (h0 : Heap) (n0 : Nat) (v : Option Value) (h : Heap) (L : List Loc) : Prop := ∃ (ob : Addr) (kb : ClassId), v = some (.ref ob) ∧ Fr n0 L ∧ Keep h0 h [] ∧ n0 ≤ ob ∧ h0.size ≤ ob ∧ (((c0.toInt ≤ 255 ∧ c1.toInt ≤ 255) ∧ ∃ bb0 bb1 : Int32, Arv Z h ob kb .byte (2 : Int32) [(.int bb0), (.int bb1)] (.int 0) ∧ bb0.toInt % 256 = c0.toInt ∧ bb1.toInt % 256 = c1.toInt) ∨ (¬ (c0.toInt ≤ 255 ∧ c1.toInt ≤ 255) ∧ ∃ lo0 hi0 lo1 hi1 : Int32, Arv Z h ob kb .byte (4 : Int32) [(.int lo0), (.int hi0), (.int lo1), (.int hi1)] (.int 0) ∧ lo0.toInt % 256 = c0.toInt % 256 ∧ hi0.toInt % 256 = c0.toInt / 256 ∧ lo1.toInt % 256 = c1.toInt % 256 ∧ hi1.toInt % 256 = c1.toInt / 256))
theorem rm_cr2 (l : Launch) (Z : State) (a0 : Array Value) (hw : ∀ d ∈ tables_1, d.before a0 Z = true) (ws : List Jvm.Cond) (oc : Addr) (vcs : Int32) (vf : Value) (kC : ClassId) (c0 : Int32) (c1 : Int32) (h0 : Heap) (n0 : Nat) (Z0 : n0 ≤ h0.size) (Os : own_st Z h0 vcs vf) (Vc : Arv Z h0 oc kC .char (2 : Int32) [(.int c0), (.int c1)] (.int 0)) (uc0 : 0 ≤ c0.toInt) (uc1 : 0 ≤ c1.toInt) (vc0 : c0.toInt < 65536) (vc1 : c1.toInt < 65536) :
    MetFree l yn28 (head1 (Jvm.Cond.code yn28 kc28 6 (some (.array .byte)) :: ws) ⟨3, 2, 6, 40⟩) (fun a U => a = #[(.ref oc), (.int 0), (.int 2)] ∧ Z.Warmed39 U.vm ∧ U.heap = h0) (fun _ _ _ _ _ => True) (fun _ U o U' => ∃ v L, o = .returned v ∧ Q_cr2 Z oc vcs vf kC c0 c1 h0 n0 v U'.heap L ∧ FrameEnd U o U' L 2 6) := by
  refine MetFree.of_bodySF (plainFor_of_name pn_3) hisR ?_
  intro p e s m args below meth c s₁ Bd hml0 hP hK
  obtain ⟨rfl, hZ, hh⟩ := hP
  have hx := Bd.exec
  have hby := Bd.bytes
  have hml : c.maxLocals = 6 := hml0
  have hown : s.vm.findClass "java/lang/StringUTF16" = some m.cls := findClass_of_methodNamed Bd.named
  have hnm := (name_of_methodNamed Bd.named Bd.method).1
  have X0 : Stand p l e ⟨3, 2, 6, 40⟩ s m #[(.ref oc), (.int 0), (.int 2)] below meth c s₁ [] 0 0 := Stand.of_body Bd
  have e0 : s₁.heap = h0 := by rw [← hh, Bd.state]; rfl
  have N0 := Fr.nil n0
  obtain ⟨SS, hSS⟩ : ∃ S, S = s₁.setTop (entryFrame m #[(.ref oc), (.int 0), (.int 2)] 6) := ⟨_, rfl⟩
  have pre0 : oP p e below (s₁.setTop (mkF m 0 #[.val (.ref oc), .val (.int 0), .val (.int 2), .unset, .unset, .unset] [])) (SS) := by
    rw [hSS]; exact fun t k => castTop (ef_rm_cr2 m oc) k
  obtain ⟨T1, h1, k1, X1, e1, E1, A1, st1⟩ := newP X0 hx hZ (ow hw 20 rfl) e0 (g := (mkF m 1 #[.val (.ref oc), .val (.int 0), .val (.int 2), .unset, .unset, .unset] [(.int 2)])) rfl (hb hby d7_1) rfl (by decide) (cap := 2) (by decide) (by decide) (by decide) (by decide)
  obtain ⟨b1, g1⟩ : ∃ z, z = h0.size := ⟨_, rfl⟩
  have ne_oc_b1 : oc ≠ b1 := Nat.ne_of_lt (Nat.lt_of_lt_of_le Vc.lt (Nat.le_of_eq g1.symm))
  have g_b1 : n0 ≤ b1 := Nat.le_trans Z0 (Nat.le_of_eq g1.symm)
  have sz_b1 : h0.size ≤ b1 := Nat.le_trans (Keep.refl h0 []).1 (Nat.le_of_eq g1.symm)
  rw [← g1] at A1 st1
  have Zs2 : n0 ≤ h1.size := Nat.le_trans Z0 E1.1
  have V1 : Arv Z h1 b1 k1 .byte (2 : Int32) [(.int 0), (.int 0)] (.int 0) := (Arv.new A1 (by decide)).pad (pad_rep [] (.int 0) 2)
  have f4 := (Vc.ext E1)
  obtain ⟨_, _, ⟨T3, L3, k3, n3⟩, -, X3, ⟨Lc3, hQ3, l3, y3, z3⟩, st3⟩ := Jvm.LawKit.callS X1 hx (y := yn27) hown (mvT hZ (ow hw 41 rfl)) (mvT hZ (ow hw 42 rfl)) (mvT hZ (ow hw 39 rfl)) (mvT hZ (ow hw 43 rfl)) (by decide) (backOf (W := 0) (rm_cq2 l Z a0 hw [] oc b1 kC c0 c1 k1 h1 n0 Zs2 f4 uc0 uc1 vc0 vc1 V1 g_b1 ne_oc_b1) hZ (ow hw 43 rfl) (ow hw 39 rfl) (by decide) (by decide)) (g := (mkF m 9 #[.val (.ref oc), .val (.int 0), .val (.int 2), .val (.ref b1), .unset, .unset] [(.int 2), (.int 0), (.ref b1), (.int 0), (.ref oc)])) rfl (by rw [hml]; rfl) (argsL := [(.ref oc), (.int 0), (.ref b1), (.int 0), (.int 2)]) (rest := []) (lenOf pd_16 rfl) rfl (by exact Nat.le_of_eq rfl) (hb hby d7_9) (fun _ _ => ⟨rfl, e1, (by decide : 1 + 0 ≤ _), (by decide : 2 + 0 ≤ _)⟩)
  dsimp only [Pt.U, Pt.locs, Pt.cells, Pt.slots] at X3 l3 y3 z3 st3 hQ3
  rw [l3, y3, z3] at X3
  obtain ⟨N3q, K3, hO3⟩ := hQ3
  have N3 := Fr.app N0 N3q
  have Zs5 : n0 ≤ T3.heap.size := Nat.le_trans Zs2 K3.1
  rcases hO3 with ⟨rfl, hall, bb0, bb1, VbL, qbb0, qbb1⟩ | ⟨rfl, hbig, vsP, VbP⟩ | ⟨rfl, hbig, vsP, VbP⟩
  · have own_mk2 := True.intro
    have hc17_6 : (2 : Int) = (2 : Int) := by decide
    subst hSS
    obtain ⟨fs, hr, q1, q2, q3, q4⟩ := X3.leave (v := some (.ref b1)) (fun h => by rw [Bd.returns] at h; cases h)
    refine ⟨_, _, pre0 _ ?_, q1, q2, _, _, rfl, ?_, ⟨_, rfl⟩, q3, q4.mono (by decide) (by decide)⟩
    · refine XS.iloadN X0.here hx rfl (hb hby d7_0) rfl ?_
      refine st1 _ ?_
      refine XS.astoreN X1.here hx rfl (hb hby d7_3) rfl rfl (l' := #[.val (.ref oc), .val (.int 0), .val (.int 2), .val (.ref b1), .unset, .unset]) rfl ?_
      refine XS.aloadN X1.here hx rfl (hb hby d7_4) rfl rfl ?_
      refine XS.iloadN X1.here hx rfl (hb hby d7_5) rfl ?_
      refine XS.aloadN X1.here hx rfl (hb hby d7_6) rfl rfl ?_
      refine XS.iconst X1.here hx rfl (hb hby d7_7) ?_
      refine XS.iloadN X1.here hx rfl (hb hby d7_8) rfl ?_
      refine st3 _ ?_
      refine XS.istore X3.here hx rfl (hb hby d7_12) rfl (l' := #[.val (.ref oc), .val (.int 0), .val (.int 2), .val (.ref b1), .val (.int 2), .unset]) rfl ?_
      refine XS.iload X3.here hx rfl (hb hby d7_14) rfl ?_
      refine XS.iloadN X3.here hx rfl (hb hby d7_16) rfl ?_
      refine XS.icmpYes X3.here hx rfl (pc0 := 17) (pc' := 57) rfl (hb hby d7_17) rfl (own_teq (a := (2 : Int32)) (b := (2 : Int32)) (by decide) (by decide) hc17_6).1 (by decide) (by decide) ?_
      refine XS.aloadN X3.here hx rfl (hb hby d7_57) rfl rfl ?_
      jvm_step X3.here [X3.here.top, hx, (hb hby d7_58), X3.method', Bd.returns, Value.isRef, FieldType.isReference]
      first | (intro acts; rw [hr _ acts rfl rfl rfl]) | rw [hr _ _ rfl rfl rfl]
      exact Steps.refl _
    · show Q_cr2 Z _ _ _ _ _ _ h0 n0 _ T3.heap _
      have f7 := (((Keep.refl h0 []).ext E1).trans K3 (allS (P := fun x => x ∈ [] ∨ h0.size ≤ x) (Or.inr sz_b1) all0))
      exact ⟨b1, _, rfl, N3, f7, g_b1, sz_b1, Or.inl ⟨hall, bb0, bb1, VbL, qbb0, qbb1⟩⟩
  · have own_mk0 := True.intro
    have hc17_8 : ¬ ((0 : Int) = (2 : Int)) := by decide
    have f10 := (f4.keep K3 (ninS ne_oc_b1 nin0))
    have f11 := (((Keep.refl h0 []).ext E1).trans K3 (allS (P := fun x => x ∈ [] ∨ h0.size ≤ x) (Or.inr sz_b1) all0))
    have os12 := (own_st_keep (own_st_ext Os E1) K3 (nsS V1.nostat ns0))
    obtain ⟨_, _, ⟨T9, L9, k9, n9⟩, -, X9, ⟨Lc9, hQ9, l9, y9, z9⟩, st9⟩ := Jvm.LawKit.callS X3 hx (y := yn26) hown (mvT hZ (ow hw 100 rfl)) (mvT hZ (ow hw 101 rfl)) (mvT hZ (ow hw 39 rfl)) (mvT hZ (ow hw 102 rfl)) (by decide) (backOf (W := 0) (rm_tb2 l Z a0 hw [] oc vcs vf kC c0 c1 T3.heap n0 Zs5 os12 f10 uc0 uc1 vc0 vc1) hZ (ow hw 102 rfl) (ow hw 39 rfl) (by decide) (by decide)) (g := (mkF m 23 #[.val (.ref oc), .val (.int 0), .val (.int 2), .val (.ref b1), .val (.int 0), .unset] [(.int 2), (.int 0), (.ref oc)])) rfl (by rw [hml]; rfl) (argsL := [(.ref oc), (.int 0), (.int 2)]) (rest := []) (lenOf pd_17 rfl) rfl (by exact Nat.le_of_eq rfl) (hb hby d7_23) (fun _ _ => ⟨rfl, rfl, (by decide : 1 + 1 ≤ _), (by decide : 2 + 4 ≤ _)⟩)
    dsimp only [Pt.U, Pt.locs, Pt.cells, Pt.slots] at X9 l9 y9 z9 st9 hQ9
    rw [l9, y9, z9] at X9
    obtain ⟨ou, ku, lo0, hi0, lo1, hi1, rfl, N9q, K9, gu, szu, Vu9, qlo0, qhi0, qlo1, qhi1⟩ := hQ9
    have N9 := Fr.app N3 N9q
    have Zs13 : n0 ≤ T9.heap.size := Nat.le_trans Zs5 K9.1
    have ne_oc_ou : oc ≠ ou := Nat.ne_of_lt (Nat.lt_of_lt_of_le f10.lt szu)
    have ne_b1_ou : b1 ≠ ou := Nat.ne_of_lt (Nat.lt_of_lt_of_le VbP.lt szu)
    have sz_ou : h0.size ≤ ou := Nat.le_trans f11.1 szu
    have os15 := (own_st_keep os12 K9 ns0)
    obtain ⟨_, _, ⟨T14, L14, k14, n14⟩, -, X14, ⟨Lc14, hQ14, l14, y14, z14⟩, st14⟩ := Jvm.LawKit.callS X9 hx (y := yn7) hown (mvT hZ (ow hw 116 rfl)) (mvT hZ (ow hw 117 rfl)) (mvT hZ (ow hw 39 rfl)) (mvT hZ (ow hw 118 rfl)) (by decide) (backOf (W := 0) (rm_gc l Z a0 hw [] ou (0 : Int32) vcs vf ku (4 : Int32) [(.int lo0), (.int hi0), (.int lo1), (.int hi1)] lo0 hi0 0 T9.heap n0 Zs13 os15 Vu9 (by decide) (by decide) (by decide) rfl rfl) hZ (ow hw 118 rfl) (ow hw 39 rfl) (by decide) (by decide)) (g := (mkF m 32 #[.val (.ref oc), .val (.int 0), .val (.int 2), .val (.ref b1), .val (.int 0), .val (.ref ou)] [(.int 0), (.ref ou)])) rfl (by rw [hml]; rfl) (argsL := [(.ref ou), (.int 0)]) (rest := []) (lenOf pd_5 rfl) rfl (by exact Nat.le_of_eq rfl) (hb hby d7_32) (fun _ _ => ⟨rfl, rfl, (by decide : 2 + 0 ≤ _), (by decide : 6 + 0 ≤ _)⟩)
    dsimp only [Pt.U, Pt.locs, Pt.cells, Pt.slots] at X14 l14 y14 z14 st14 hQ14
    rw [l14, y14, z14] at X14
    obtain ⟨zg, rfl, hzg, N14q, e14⟩ := hQ14
    have N14 := Fr.app N9 N14q
    have hc38_16 : (255 : Int) < zg.toInt := by omega
    subst hSS
    obtain ⟨fs, hr, q1, q2, q3, q4⟩ := X14.leave (v := some (.ref ou)) (fun h => by rw [Bd.returns] at h; cases h)
    refine ⟨_, _, pre0 _ ?_, q1, q2, _, _, rfl, ?_, ⟨_, rfl⟩, q3, q4.mono (by decide) (by decide)⟩
    · refine XS.iloadN X0.here hx rfl (hb hby d7_0) rfl ?_
      refine st1 _ ?_
      refine XS.astoreN X1.here hx rfl (hb hby d7_3) rfl rfl (l' := #[.val (.ref oc), .val (.int 0), .val (.int 2), .val (.ref b1), .unset, .unset]) rfl ?_
      refine XS.aloadN X1.here hx rfl (hb hby d7_4) rfl rfl ?_
      refine XS.iloadN X1.here hx rfl (hb hby d7_5) rfl ?_
      refine XS.aloadN X1.here hx rfl (hb hby d7_6) rfl rfl ?_
      refine XS.iconst X1.here hx rfl (hb hby d7_7) ?_
      refine XS.iloadN X1.here hx rfl (hb hby d7_8) rfl ?_
      refine st3 _ ?_
      refine XS.istore X3.here hx rfl (hb hby d7_12) rfl (l' := #[.val (.ref oc), .val (.int 0), .val (.int 2), .val (.ref b1), .val (.int 0), .unset]) rfl ?_
      refine XS.iload X3.here hx rfl (hb hby d7_14) rfl ?_
      refine XS.iloadN X3.here hx rfl (hb hby d7_16) rfl ?_
      refine XS.icmpNo X3.here hx rfl (hb hby d7_17) rfl (own_feq (a := (0 : Int32)) (b := (2 : Int32)) (by decide) (by decide) hc17_8).1 ?_
      refine XS.aloadN X3.here hx rfl (hb hby d7_20) rfl rfl ?_
      refine XS.iloadN X3.here hx rfl (hb hby d7_21) rfl ?_
      refine XS.iloadN X3.here hx rfl (hb hby d7_22) rfl ?_
      refine st9 _ ?_
      refine XS.astore X9.here hx rfl (hb hby d7_26) rfl rfl (l' := #[.val (.ref oc), .val (.int 0), .val (.int 2), .val (.ref b1), .val (.int 0), .val (.ref ou)]) rfl ?_
      refine XS.aload X9.here hx rfl (hb hby d7_28) rfl rfl ?_
      show Steps p.tables e below (T9.setTop (mkF m 30 #[.val (.ref oc), .val (.int 0), .val (.int 2), .val (.ref b1), .val (.int 0), .val (.ref ou)] [(.ref ou)])) _
      refine XS.iload X9.here hx rfl (hb hby d7_30) rfl ?_
      refine st14 _ ?_
      refine XS.sipush X14.here hx rfl (hb hby d7_35) ?_
      refine XS.icmpYes X14.here hx rfl (pc0 := 38) (pc' := 54) rfl (hb hby d7_38) rfl (own_tlt (a := (255 : Int32)) (b := zg) (by decide) rfl hc38_16).2.2.1 (by decide) (by decide) ?_
      refine XS.aload X14.here hx rfl (hb hby d7_54) rfl rfl ?_
      jvm_step X14.here [X14.here.top, hx, (hb hby d7_56), X14.method', Bd.returns, Value.isRef, FieldType.isReference]
      first | (intro acts; rw [hr _ acts rfl rfl rfl]) | rw [hr _ _ rfl rfl rfl]
      exact Steps.refl _
    · show Q_cr2 Z _ _ _ _ _ _ h0 n0 _ T14.heap _
      rw [e14]
      have f17 := (f11.trans K9 all0)
      exact ⟨ou, _, rfl, N14, f17, gu, sz_ou, Or.inr ⟨fun q => by omega, lo0, hi0, lo1, hi1, Vu9, qlo0, qhi0, qlo1, qhi1⟩⟩
  · have own_mk1 := True.intro
    have hc17_18 : ¬ ((1 : Int) = (2 : Int)) := by decide
    have f20 := (f4.keep K3 (ninS ne_oc_b1 nin0))
    have f21 := (((Keep.refl h0 []).ext E1).trans K3 (allS (P := fun x => x ∈ [] ∨ h0.size ≤ x) (Or.inr sz_b1) all0))
    have os22 := (own_st_keep (own_st_ext Os E1) K3 (nsS V1.nostat ns0))
    obtain ⟨_, _, ⟨T19, L19, k19, n19⟩, -, X19, ⟨Lc19, hQ19, l19, y19, z19⟩, st19⟩ := Jvm.LawKit.callS X3 hx (y := yn26) hown (mvT hZ (ow hw 100 rfl)) (mvT hZ (ow hw 101 rfl)) (mvT hZ (ow hw 39 rfl)) (mvT hZ (ow hw 102 rfl)) (by decide) (backOf (W := 0) (rm_tb2 l Z a0 hw [] oc vcs vf kC c0 c1 T3.heap n0 Zs5 os22 f20 uc0 uc1 vc0 vc1) hZ (ow hw 102 rfl) (ow hw 39 rfl) (by decide) (by decide)) (g := (mkF m 23 #[.val (.ref oc), .val (.int 0), .val (.int 2), .val (.ref b1), .val (.int 1), .unset] [(.int 2), (.int 0), (.ref oc)])) rfl (by rw [hml]; rfl) (argsL := [(.ref oc), (.int 0), (.int 2)]) (rest := []) (lenOf pd_17 rfl) rfl (by exact Nat.le_of_eq rfl) (hb hby d7_23) (fun _ _ => ⟨rfl, rfl, (by decide : 1 + 1 ≤ _), (by decide : 2 + 4 ≤ _)⟩)
    dsimp only [Pt.U, Pt.locs, Pt.cells, Pt.slots] at X19 l19 y19 z19 st19 hQ19
    rw [l19, y19, z19] at X19
    obtain ⟨ou, ku, lo0, hi0, lo1, hi1, rfl, N19q, K19, gu, szu, Vu19, qlo0, qhi0, qlo1, qhi1⟩ := hQ19
    have N19 := Fr.app N3 N19q
    have Zs23 : n0 ≤ T19.heap.size := Nat.le_trans Zs5 K19.1
    have ne_oc_ou : oc ≠ ou := Nat.ne_of_lt (Nat.lt_of_lt_of_le f20.lt szu)
    have ne_b1_ou : b1 ≠ ou := Nat.ne_of_lt (Nat.lt_of_lt_of_le VbP.lt szu)
    have sz_ou : h0.size ≤ ou := Nat.le_trans f21.1 szu
    have os25 := (own_st_keep os22 K19 ns0)
    obtain ⟨_, _, ⟨T24, L24, k24, n24⟩, -, X24, ⟨Lc24, hQ24, l24, y24, z24⟩, st24⟩ := Jvm.LawKit.callS X19 hx (y := yn7) hown (mvT hZ (ow hw 116 rfl)) (mvT hZ (ow hw 117 rfl)) (mvT hZ (ow hw 39 rfl)) (mvT hZ (ow hw 118 rfl)) (by decide) (backOf (W := 0) (rm_gc l Z a0 hw [] ou (1 : Int32) vcs vf ku (4 : Int32) [(.int lo0), (.int hi0), (.int lo1), (.int hi1)] lo1 hi1 1 T19.heap n0 Zs23 os25 Vu19 (by decide) (by decide) (by decide) rfl rfl) hZ (ow hw 118 rfl) (ow hw 39 rfl) (by decide) (by decide)) (g := (mkF m 32 #[.val (.ref oc), .val (.int 0), .val (.int 2), .val (.ref b1), .val (.int 1), .val (.ref ou)] [(.int 1), (.ref ou)])) rfl (by rw [hml]; rfl) (argsL := [(.ref ou), (.int 1)]) (rest := []) (lenOf pd_5 rfl) rfl (by exact Nat.le_of_eq rfl) (hb hby d7_32) (fun _ _ => ⟨rfl, rfl, (by decide : 2 + 0 ≤ _), (by decide : 6 + 0 ≤ _)⟩)
    dsimp only [Pt.U, Pt.locs, Pt.cells, Pt.slots] at X24 l24 y24 z24 st24 hQ24
    rw [l24, y24, z24] at X24
    obtain ⟨zg, rfl, hzg, N24q, e24⟩ := hQ24
    have N24 := Fr.app N19 N24q
    have hc38_26 : (255 : Int) < zg.toInt := by omega
    subst hSS
    obtain ⟨fs, hr, q1, q2, q3, q4⟩ := X24.leave (v := some (.ref ou)) (fun h => by rw [Bd.returns] at h; cases h)
    refine ⟨_, _, pre0 _ ?_, q1, q2, _, _, rfl, ?_, ⟨_, rfl⟩, q3, q4.mono (by decide) (by decide)⟩
    · refine XS.iloadN X0.here hx rfl (hb hby d7_0) rfl ?_
      refine st1 _ ?_
      refine XS.astoreN X1.here hx rfl (hb hby d7_3) rfl rfl (l' := #[.val (.ref oc), .val (.int 0), .val (.int 2), .val (.ref b1), .unset, .unset]) rfl ?_
      refine XS.aloadN X1.here hx rfl (hb hby d7_4) rfl rfl ?_
      refine XS.iloadN X1.here hx rfl (hb hby d7_5) rfl ?_
      refine XS.aloadN X1.here hx rfl (hb hby d7_6) rfl rfl ?_
      refine XS.iconst X1.here hx rfl (hb hby d7_7) ?_
      refine XS.iloadN X1.here hx rfl (hb hby d7_8) rfl ?_
      refine st3 _ ?_
      refine XS.istore X3.here hx rfl (hb hby d7_12) rfl (l' := #[.val (.ref oc), .val (.int 0), .val (.int 2), .val (.ref b1), .val (.int 1), .unset]) rfl ?_
      refine XS.iload X3.here hx rfl (hb hby d7_14) rfl ?_
      refine XS.iloadN X3.here hx rfl (hb hby d7_16) rfl ?_
      refine XS.icmpNo X3.here hx rfl (hb hby d7_17) rfl (own_feq (a := (1 : Int32)) (b := (2 : Int32)) (by decide) (by decide) hc17_18).1 ?_
      refine XS.aloadN X3.here hx rfl (hb hby d7_20) rfl rfl ?_
      refine XS.iloadN X3.here hx rfl (hb hby d7_21) rfl ?_
      refine XS.iloadN X3.here hx rfl (hb hby d7_22) rfl ?_
      refine st19 _ ?_
      refine XS.astore X19.here hx rfl (hb hby d7_26) rfl rfl (l' := #[.val (.ref oc), .val (.int 0), .val (.int 2), .val (.ref b1), .val (.int 1), .val (.ref ou)]) rfl ?_
      refine XS.aload X19.here hx rfl (hb hby d7_28) rfl rfl ?_
      show Steps p.tables e below (T19.setTop (mkF m 30 #[.val (.ref oc), .val (.int 0), .val (.int 2), .val (.ref b1), .val (.int 1), .val (.ref ou)] [(.ref ou)])) _
      refine XS.iload X19.here hx rfl (hb hby d7_30) rfl ?_
      refine st24 _ ?_
      refine XS.sipush X24.here hx rfl (hb hby d7_35) ?_
      refine XS.icmpYes X24.here hx rfl (pc0 := 38) (pc' := 54) rfl (hb hby d7_38) rfl (own_tlt (a := (255 : Int32)) (b := zg) (by decide) rfl hc38_26).2.2.1 (by decide) (by decide) ?_
      refine XS.aload X24.here hx rfl (hb hby d7_54) rfl rfl ?_
      jvm_step X24.here [X24.here.top, hx, (hb hby d7_56), X24.method', Bd.returns, Value.isRef, FieldType.isReference]
      first | (intro acts; rw [hr _ acts rfl rfl rfl]) | rw [hr _ _ rfl rfl rfl]
      exact Steps.refl _
    · show Q_cr2 Z _ _ _ _ _ _ h0 n0 _ T24.heap _
      rw [e24]
      have f27 := (f21.trans K19 all0)
      exact ⟨ou, _, rfl, N24, f27, gu, sz_ou, Or.inr ⟨fun q => by omega, lo0, hi0, lo1, hi1, Vu19, qlo0, qhi0, qlo1, qhi1⟩⟩
theorem ef_rm_iw2 (m : MethodId) (x0 : Addr) (x1 : Addr) : entryFrame m #[(.ref x0), (.ref x1), (.int 0), (.int 2), .null] 6 = mkF m 0 #[.val (.ref x0), .val (.ref x1), .val (.int 0), .val (.int 2), .val .null, .unset] [] := by first | (simp [entryFrame, mkF, argsToLocals, Value.category]; done) | rfl
def Q_iw2 (Z : State) (oa : Addr) (oc : Addr) (vcs : Int32) (vf : Value) (kC : ClassId) (c0 : Int32) (c1 : Int32) (h0 : Heap) (n0 : Nat) (v : Option Value) (h : Heap) (L : List Loc) : Prop := v = none ∧ Fr n0 L ∧ Keep h0 h [oa] ∧ Exa Z h oa "java/lang/String" ∧ ∃ (ob : Addr) (kb : ClassId), n0 ≤ ob ∧ h0.size ≤ ob ∧ Fld Z h oa "java/lang/String" "value" "[B" (.ref ob) ∧ ((Fld Z h oa "java/lang/String" "coder" "B" (.int 0) ∧ ((c0.toInt ≤ 255 ∧ c1.toInt ≤ 255) ∧ ∃ bb0 bb1 : Int32, Arv Z h ob kb .byte (2 : Int32) [(.int bb0), (.int bb1)] (.int 0) ∧ bb0.toInt % 256 = c0.toInt ∧ bb1.toInt % 256 = c1.toInt)) ∨ (Fld Z h oa "java/lang/String" "coder" "B" (.int 1) ∧ (¬ (c0.toInt ≤ 255 ∧ c1.toInt ≤ 255) ∧ ∃ lo0 hi0 lo1 hi1 : Int32, Arv Z h ob kb .byte (4 : Int32) [(.int lo0), (.int hi0), (.int lo1), (.int hi1)] (.int 0) ∧ lo0.toInt % 256 = c0.toInt % 256 ∧ hi0.toInt % 256 = c0.toInt / 256 ∧ lo1.toInt % 256 = c1.toInt % 256 ∧ hi1.toInt % 256 = c1.toInt / 256)))
theorem rm_iw2 (l : Launch) (Z : State) (a0 : Array Value) (hw : ∀ d ∈ tables_1, d.before a0 Z = true) (ws : List Jvm.Cond) (oa : Addr) (oc : Addr) (vcs : Int32) (vf : Value) (kC : ClassId) (c0 : Int32) (c1 : Int32) (h0 : Heap) (n0 : Nat) (Z0 : n0 ≤ h0.size) (Os : own_st Z h0 vcs vf) (Es : Exa Z h0 oa "java/lang/String") (Fc : Fld Z h0 oa "java/lang/String" "coder" "B" (.int 0)) (Fv : Fld Z h0 oa "java/lang/String" "value" "[B" .null) (ga : n0 ≤ oa) (nac : oa ≠ oc) (Vc : Arv Z h0 oc kC .char (2 : Int32) [(.int c0), (.int c1)] (.int 0)) (uc0 : 0 ≤ c0.toInt) (uc1 : 0 ≤ c1.toInt) (vc0 : c0.toInt < 65536) (vc1 : c1.toInt < 65536) :
    MetFree l yn30 (head1 (Jvm.Cond.code yn30 kc30 6 none :: ws) ⟨4, 2, 6, 57⟩) (fun a U => a = #[(.ref oa), (.ref oc), (.int 0), (.int 2), .null] ∧ Z.Warmed39 U.vm ∧ U.heap = h0) (fun _ _ _ _ _ => True) (fun _ U o U' => ∃ v L, o = .returned v ∧ Q_iw2 Z oa oc vcs vf kC c0 c1 h0 n0 v U'.heap L ∧ FrameEnd U o U' L 2 6) := by
  refine MetFree.of_bodySF (plainFor_of_name pn_1) hisR ?_
  intro p e s m args below meth c s₁ Bd hml0 hP hK
  obtain ⟨rfl, hZ, hh⟩ := hP
  have hx := Bd.exec
  have hby := Bd.bytes
  have hml : c.maxLocals = 6 := hml0
  have hown : s.vm.findClass "java/lang/String" = some m.cls := findClass_of_methodNamed Bd.named
  have hnm := (name_of_methodNamed Bd.named Bd.method).1
  have X0 : Stand p l e ⟨4, 2, 6, 57⟩ s m #[(.ref oa), (.ref oc), (.int 0), (.int 2), .null] below meth c s₁ [] 0 0 := Stand.of_body Bd
  have e0 : s₁.heap = h0 := by rw [← hh, Bd.state]; rfl
  have N0 := Fr.nil n0
  obtain ⟨SS, hSS⟩ : ∃ S, S = s₁.setTop (entryFrame m #[(.ref oa), (.ref oc), (.int 0), (.int 2), .null] 6) := ⟨_, rfl⟩
  have pre0 : oP p e below (s₁.setTop (mkF m 0 #[.val (.ref oa), .val (.ref oc), .val (.int 0), .val (.int 2), .val .null, .unset] [])) (SS) := by
    rw [hSS]; exact fun t k => castTop (ef_rm_iw2 m oa oc) k
  obtain ⟨T1, X1, e1, st1⟩ := initO X0 hx hZ hown (ow hw 16 rfl) (ow hw 17 rfl) (ow hw 18 rfl) e0 (g := (mkF m 1 #[.val (.ref oa), .val (.ref oc), .val (.int 0), .val (.int 2), .val .null, .unset] [(.ref oa)])) rfl (by rw [hml]; rfl) rfl (hb hby d3_1) (by decide) (W := 0) (by exact Nat.le_of_eq rfl) (by decide)
  have hc5_2 : ¬ ((2 : Int) = (0 : Int)) := by decide
  obtain ⟨T3, X3, e3, st3⟩ := getS2 X1 hx hZ hown (host := "") (Or.inl (ow hw 36 rfl)) Via.refl e1 Os.1 (g := (mkF m 27 #[.val (.ref oa), .val (.ref oc), .val (.int 0), .val (.int 2), .val .null, .unset] [])) rfl (hb hby d3_27)
  have hc30_4 : ¬ (vcs.toInt = (0 : Int)) := by (have q := Os.2.1; omega)
  obtain ⟨_, _, ⟨T5, L5, k5, n5⟩, -, X5, ⟨Lc5, hQ5, l5, y5, z5⟩, st5⟩ := Jvm.LawKit.callS X3 hx (y := yn28) hown (mvT hZ (ow hw 37 rfl)) (mvT hZ (ow hw 38 rfl)) (mvT hZ (ow hw 39 rfl)) (mvT hZ (ow hw 40 rfl)) (by decide) (backOf (W := 0) (rm_cr2 l Z a0 hw [] oc vcs vf kC c0 c1 h0 n0 Z0 Os Vc uc0 uc1 vc0 vc1) hZ (ow hw 40 rfl) (ow hw 39 rfl) (by decide) (by decide)) (g := (mkF m 36 #[.val (.ref oa), .val (.ref oc), .val (.int 0), .val (.int 2), .val .null, .unset] [(.int 2), (.int 0), (.ref oc)])) rfl (by rw [hml]; rfl) (argsL := [(.ref oc), (.int 0), (.int 2)]) (rest := []) (lenOf pd_17 rfl) rfl (by exact Nat.le_of_eq rfl) (hb hby d3_36) (fun _ _ => ⟨rfl, e3, (by decide : 0 + 2 ≤ _), (by decide : 0 + 6 ≤ _)⟩)
  dsimp only [Pt.U, Pt.locs, Pt.cells, Pt.slots] at X5 l5 y5 z5 st5 hQ5
  rw [l5, y5, z5] at X5
  obtain ⟨ob, kb, rfl, N5q, K5, gb, szb, hO5⟩ := hQ5
  have N5 := Fr.app N0 N5q
  have Zs6 : n0 ≤ T5.heap.size := Nat.le_trans Z0 K5.1
  have ne_oa_ob : oa ≠ ob := Nat.ne_of_lt (Nat.lt_of_lt_of_le Es.lt szb)
  have ne_oc_ob : oc ≠ ob := Nat.ne_of_lt (Nat.lt_of_lt_of_le Vc.lt szb)
  have sz_ob : h0.size ≤ ob := Nat.le_trans (Keep.refl h0 [oa]).1 szb
  have pre7 : oP p e below (T5.setTop (mkF m 39 #[.val (.ref oa), .val (.ref oc), .val (.int 0), .val (.int 2), .val .null, .unset] [(.ref ob)])) (SS) := fun t kt => by
    refine pre0 _ ?_
    refine XS.aloadN X0.here hx rfl (hb hby d3_0) rfl rfl ?_
    refine st1 _ ?_
    refine XS.iloadN X1.here hx rfl (hb hby d3_4) rfl ?_
    refine XS.ifYes X1.here hx rfl (pc0 := 5) (pc' := 27) rfl (hb hby d3_5) rfl (own_if (own_feq (a := (2 : Int32)) (b := (0 : Int32)) (by decide) (by decide) hc5_2).2) (by decide) (by decide) ?_
    refine st3 _ ?_
    refine XS.ifNo X3.here hx rfl (hb hby d3_30) rfl (own_if (own_feq (a := vcs) (b := (0 : Int32)) rfl (by decide) hc30_4).1) ?_
    refine XS.aloadN X3.here hx rfl (hb hby d3_33) rfl rfl ?_
    refine XS.iloadN X3.here hx rfl (hb hby d3_34) rfl ?_
    refine XS.iloadN X3.here hx rfl (hb hby d3_35) rfl ?_
    refine st5 _ ?_
    exact kt
  rcases hO5 with ⟨hall, bb0, bb1, VbL, qbb0, qbb1⟩ | ⟨hall, lo0, hi0, lo1, hi1, VbU, qlo0, qhi0, qlo1, qhi1⟩
  · have own_mL := True.intro
    obtain ⟨_, _, ⟨T8, L8, k8, n8⟩, -, X8, ⟨Lc8, hQ8, l8, y8, z8⟩, st8⟩ := Jvm.LawKit.callS X5 hx (y := yn29) hown (mvT hZ (ow hw 44 rfl)) (mvT hZ (ow hw 45 rfl)) (mvT hZ (ow hw 39 rfl)) (mvT hZ (ow hw 46 rfl)) (by decide) (backOf (W := 1) (rm_cg l Z a0 hw [] ob (2 : Int32) (0 : Int32) (2 : Int32) kb [(.int bb0), (.int bb1)] T5.heap n0 Zs6 VbL (Or.inl ⟨rfl, rfl⟩)) hZ (ow hw 46 rfl) (ow hw 39 rfl) (by decide) (by decide)) (g := (mkF m 45 #[.val (.ref oa), .val (.ref oc), .val (.int 0), .val (.int 2), .val .null, .val (.ref ob)] [(.int 2), (.ref ob), (.ref oa)])) rfl (by rw [hml]; rfl) (argsL := [(.ref ob), (.int 2)]) (rest := [(.ref oa)]) (lenOf pd_18 rfl) rfl (by exact Nat.le_of_eq rfl) (hb hby d3_45) (fun _ _ => ⟨rfl, rfl, (by decide : 2 + 0 ≤ _), (by decide : 6 + 0 ≤ _)⟩)
    dsimp only [Pt.U, Pt.locs, Pt.cells, Pt.slots] at X8 l8 y8 z8 st8 hQ8
    rw [l8, y8, z8] at X8
    obtain ⟨zf, rfl, hzf, N8q, e8⟩ := hQ8
    have N8 := Fr.app N5 N8q
    have pre9 : oP p e below (T8.setTop (mkF m 48 #[.val (.ref oa), .val (.ref oc), .val (.int 0), .val (.int 2), .val .null, .val (.ref ob)] [(.int zf), (.ref oa)])) (SS) := fun t kt => by
      refine pre7 _ ?_
      refine XS.astore X5.here hx rfl (hb hby d3_39) rfl rfl (l' := #[.val (.ref oa), .val (.ref oc), .val (.int 0), .val (.int 2), .val .null, .val (.ref ob)]) rfl ?_
      refine XS.aloadN X5.here hx rfl (hb hby d3_41) rfl rfl ?_
      refine XS.aload X5.here hx rfl (hb hby d3_42) rfl rfl ?_
      refine XS.iloadN X5.here hx rfl (hb hby d3_44) rfl ?_
      refine st8 _ ?_
      exact kt
    subst hzf
    have pre10 : oP p e below (T8.setTop (mkF m 48 #[.val (.ref oa), .val (.ref oc), .val (.int 0), .val (.int 2), .val .null, .val (.ref ob)] [(.int 0), (.ref oa)])) (SS) := pre9
    have f11 := (Fc.keep K5 nin0)
    have f12 := (Es.keep K5)
    obtain ⟨T13, h13, X13, e13, W13, st13⟩ := putFN X8 hx hZ hown (ow hw 26 rfl) Via.refl e8 f11 f12 (Or.inr ⟨(ow hw 22 rfl), rfl, hnm⟩) (ow hw 7 rfl) (ty := .byte) (v' := (.int 0)) (by decide) rfl rfl (g := (mkF m 48 #[.val (.ref oa), .val (.ref oc), .val (.int 0), .val (.int 2), .val .null, .val (.ref ob)] [(.int 0), (.ref oa)])) rfl rfl (hb hby d3_48)
    have N13 := Fr.snoc X13 N8 ga
    have Zs14 : n0 ≤ h13.size := by rw [W13.size]; exact Zs6
    have Fw13 := f11.same W13
    have f15 := ((Fv.keep K5 nin0).other W13 (Or.inr (slot_ne (Or.inr (ow hw 21 rfl)) (Or.inr (ow hw 22 rfl)) (by decide) (t := (.array .byte)) (t' := .byte) (by decide) (by decide))))
    have f16 := (f12.wr W13)
    obtain ⟨T17, h17, X17, e17, W17, st17⟩ := putF X13 hx hZ hown (host := "") (Or.inl (ow hw 25 rfl)) Via.refl e13 f15 f16 (Or.inr ⟨(ow hw 21 rfl), rfl, hnm⟩) (ow hw 7 rfl) (ty := (.array .byte)) (by decide) rfl rfl (g := (mkF m 54 #[.val (.ref oa), .val (.ref oc), .val (.int 0), .val (.int 2), .val .null, .val (.ref ob)] [(.ref ob), (.ref oa)])) rfl rfl (hb hby d3_54)
    have N17 := Fr.snoc X17 N13 ga
    have Zs18 : n0 ≤ h17.size := by rw [W17.size]; exact Zs14
    have Fw17 := f15.same W17
    subst hSS
    obtain ⟨fs, hr, q1, q2, q3, q4⟩ := X17.leave (v := none) (fun _ => rfl)
    refine ⟨_, _, pre10 _ ?_, q1, q2, _, _, rfl, ?_, ⟨_, rfl⟩, q3, q4.mono (by decide) (by decide)⟩
    · refine st13 _ ?_
      refine XS.aloadN X13.here hx rfl (hb hby d3_51) rfl rfl ?_
      refine XS.aload X13.here hx rfl (hb hby d3_52) rfl rfl ?_
      refine st17 _ ?_
      show Steps p.tables e below (T17.setTop (mkF m 57 #[.val (.ref oa), .val (.ref oc), .val (.int 0), .val (.int 2), .val .null, .val (.ref ob)] [])) _
      exact X17.returnOut hx Bd.returns (hb hby d3_57) hr
    · show Q_iw2 Z _ _ _ _ _ _ _ h0 n0 _ T17.heap _
      rw [e17]
      have f19 := (Fw13.other W17 (Or.inr (slot_ne (Or.inr (ow hw 22 rfl)) (Or.inr (ow hw 21 rfl)) (by decide) (t := .byte) (t' := (.array .byte)) (by decide) (by decide))))
      have f20 := ((VbL.other W13 (Ne.symm ne_oa_ob)).other W17 (Ne.symm ne_oa_ob))
      have f21 := ((((Keep.refl h0 [oa]).trans K5 all0).wr W13 (Or.inl (List.mem_of_getElem? (i := 0) rfl))).wr W17 (Or.inl (List.mem_of_getElem? (i := 0) rfl)))
      have f22 := (f16.wr W17)
      exact ⟨rfl, N17, f21, f22, ob, kb, gb, sz_ob, Fw17, Or.inl ⟨f19, hall, bb0, bb1, f20, qbb0, qbb1⟩⟩
  · have own_mU := True.intro
    obtain ⟨_, _, ⟨T23, L23, k23, n23⟩, -, X23, ⟨Lc23, hQ23, l23, y23, z23⟩, st23⟩ := Jvm.LawKit.callS X5 hx (y := yn29) hown (mvT hZ (ow hw 44 rfl)) (mvT hZ (ow hw 45 rfl)) (mvT hZ (ow hw 39 rfl)) (mvT hZ (ow hw 46 rfl)) (by decide) (backOf (W := 1) (rm_cg l Z a0 hw [] ob (2 : Int32) (1 : Int32) (4 : Int32) kb [(.int lo0), (.int hi0), (.int lo1), (.int hi1)] T5.heap n0 Zs6 VbU (Or.inr ⟨rfl, by decide⟩)) hZ (ow hw 46 rfl) (ow hw 39 rfl) (by decide) (by decide)) (g := (mkF m 45 #[.val (.ref oa), .val (.ref oc), .val (.int 0), .val (.int 2), .val .null, .val (.ref ob)] [(.int 2), (.ref ob), (.ref oa)])) rfl (by rw [hml]; rfl) (argsL := [(.ref ob), (.int 2)]) (rest := [(.ref oa)]) (lenOf pd_18 rfl) rfl (by exact Nat.le_of_eq rfl) (hb hby d3_45) (fun _ _ => ⟨rfl, rfl, (by decide : 2 + 0 ≤ _), (by decide : 6 + 0 ≤ _)⟩)
    dsimp only [Pt.U, Pt.locs, Pt.cells, Pt.slots] at X23 l23 y23 z23 st23 hQ23
    rw [l23, y23, z23] at X23
    obtain ⟨zf, rfl, hzf, N23q, e23⟩ := hQ23
    have N23 := Fr.app N5 N23q
    have pre24 : oP p e below (T23.setTop (mkF m 48 #[.val (.ref oa), .val (.ref oc), .val (.int 0), .val (.int 2), .val .null, .val (.ref ob)] [(.int zf), (.ref oa)])) (SS) := fun t kt => by
      refine pre7 _ ?_
      refine XS.astore X5.here hx rfl (hb hby d3_39) rfl rfl (l' := #[.val (.ref oa), .val (.ref oc), .val (.int 0), .val (.int 2), .val .null, .val (.ref ob)]) rfl ?_
      refine XS.aloadN X5.here hx rfl (hb hby d3_41) rfl rfl ?_
      refine XS.aload X5.here hx rfl (hb hby d3_42) rfl rfl ?_
      refine XS.iloadN X5.here hx rfl (hb hby d3_44) rfl ?_
      refine st23 _ ?_
      exact kt
    subst hzf
    have pre25 : oP p e below (T23.setTop (mkF m 48 #[.val (.ref oa), .val (.ref oc), .val (.int 0), .val (.int 2), .val .null, .val (.ref ob)] [(.int 1), (.ref oa)])) (SS) := pre24
    have f26 := (Fc.keep K5 nin0)
    have f27 := (Es.keep K5)
    obtain ⟨T28, h28, X28, e28, W28, st28⟩ := putFN X23 hx hZ hown (ow hw 26 rfl) Via.refl e23 f26 f27 (Or.inr ⟨(ow hw 22 rfl), rfl, hnm⟩) (ow hw 7 rfl) (ty := .byte) (v' := (.int 1)) (by decide) rfl rfl (g := (mkF m 48 #[.val (.ref oa), .val (.ref oc), .val (.int 0), .val (.int 2), .val .null, .val (.ref ob)] [(.int 1), (.ref oa)])) rfl rfl (hb hby d3_48)
    have N28 := Fr.snoc X28 N23 ga
    have Zs29 : n0 ≤ h28.size := by rw [W28.size]; exact Zs6
    have Fw28 := f26.same W28
    have f30 := ((Fv.keep K5 nin0).other W28 (Or.inr (slot_ne (Or.inr (ow hw 21 rfl)) (Or.inr (ow hw 22 rfl)) (by decide) (t := (.array .byte)) (t' := .byte) (by decide) (by decide))))
    have f31 := (f27.wr W28)
    obtain ⟨T32, h32, X32, e32, W32, st32⟩ := putF X28 hx hZ hown (host := "") (Or.inl (ow hw 25 rfl)) Via.refl e28 f30 f31 (Or.inr ⟨(ow hw 21 rfl), rfl, hnm⟩) (ow hw 7 rfl) (ty := (.array .byte)) (by decide) rfl rfl (g := (mkF m 54 #[.val (.ref oa), .val (.ref oc), .val (.int 0), .val (.int 2), .val .null, .val (.ref ob)] [(.ref ob), (.ref oa)])) rfl rfl (hb hby d3_54)
    have N32 := Fr.snoc X32 N28 ga
    have Zs33 : n0 ≤ h32.size := by rw [W32.size]; exact Zs29
    have Fw32 := f30.same W32
    subst hSS
    obtain ⟨fs, hr, q1, q2, q3, q4⟩ := X32.leave (v := none) (fun _ => rfl)
    refine ⟨_, _, pre25 _ ?_, q1, q2, _, _, rfl, ?_, ⟨_, rfl⟩, q3, q4.mono (by decide) (by decide)⟩
    · refine st28 _ ?_
      refine XS.aloadN X28.here hx rfl (hb hby d3_51) rfl rfl ?_
      refine XS.aload X28.here hx rfl (hb hby d3_52) rfl rfl ?_
      refine st32 _ ?_
      show Steps p.tables e below (T32.setTop (mkF m 57 #[.val (.ref oa), .val (.ref oc), .val (.int 0), .val (.int 2), .val .null, .val (.ref ob)] [])) _
      exact X32.returnOut hx Bd.returns (hb hby d3_57) hr
    · show Q_iw2 Z _ _ _ _ _ _ _ h0 n0 _ T32.heap _
      rw [e32]
      have f34 := (Fw28.other W32 (Or.inr (slot_ne (Or.inr (ow hw 22 rfl)) (Or.inr (ow hw 21 rfl)) (by decide) (t := .byte) (t' := (.array .byte)) (by decide) (by decide))))
      have f35 := ((VbU.other W28 (Ne.symm ne_oa_ob)).other W32 (Ne.symm ne_oa_ob))
      have f36 := ((((Keep.refl h0 [oa]).trans K5 all0).wr W28 (Or.inl (List.mem_of_getElem? (i := 0) rfl))).wr W32 (Or.inl (List.mem_of_getElem? (i := 0) rfl)))
      have f37 := (f31.wr W32)
      exact ⟨rfl, N32, f36, f37, ob, kb, gb, sz_ob, Fw32, Or.inr ⟨f34, hall, lo0, hi0, lo1, hi1, f35, qlo0, qhi0, qlo1, qhi1⟩⟩
theorem ef_rm_mu2 (m : MethodId) (x0 : Addr) (x1 : Addr) : entryFrame m #[(.ref x0), (.ref x1)] 2 = mkF m 0 #[.val (.ref x0), .val (.ref x1)] [] := by first | (simp [entryFrame, mkF, argsToLocals, Value.category]; done) | rfl
def Q_mu2 (Z : State) (oa : Addr) (oc : Addr) (vcs : Int32) (vf : Value) (kC : ClassId) (c0 : Int32) (c1 : Int32) (h0 : Heap) (n0 : Nat) (v : Option Value) (h : Heap) (L : List Loc) : Prop := v = none ∧ Fr n0 L ∧ Keep h0 h [oa] ∧ Exa Z h oa "java/lang/String" ∧ ∃ (ob : Addr) (kb : ClassId), n0 ≤ ob ∧ h0.size ≤ ob ∧ Fld Z h oa "java/lang/String" "value" "[B" (.ref ob) ∧ ((Fld Z h oa "java/lang/String" "coder" "B" (.int 0) ∧ ((c0.toInt ≤ 255 ∧ c1.toInt ≤ 255) ∧ ∃ bb0 bb1 : Int32, Arv Z h ob kb .byte (2 : Int32) [(.int bb0), (.int bb1)] (.int 0) ∧ bb0.toInt % 256 = c0.toInt ∧ bb1.toInt % 256 = c1.toInt)) ∨ (Fld Z h oa "java/lang/String" "coder" "B" (.int 1) ∧ (¬ (c0.toInt ≤ 255 ∧ c1.toInt ≤ 255) ∧ ∃ lo0 hi0 lo1 hi1 : Int32, Arv Z h ob kb .byte (4 : Int32) [(.int lo0), (.int hi0), (.int lo1), (.int hi1)] (.int 0) ∧ lo0.toInt % 256 = c0.toInt % 256 ∧ hi0.toInt % 256 = c0.toInt / 256 ∧ lo1.toInt % 256 = c1.toInt % 256 ∧ hi1.toInt % 256 = c1.toInt / 256)))
theorem rm_mu2 (l : Launch) (Z : State) (a0 : Array Value) (hw : ∀ d ∈ tables_1, d.before a0 Z = true) (ws : List Jvm.Cond) (oa : Addr) (oc : Addr) (vcs : Int32) (vf : Value) (kC : ClassId) (c0 : Int32) (c1 : Int32) (h0 : Heap) (n0 : Nat) (Z0 : n0 ≤ h0.size) (Os : own_st Z h0 vcs vf) (Es : Exa Z h0 oa "java/lang/String") (Fc : Fld Z h0 oa "java/lang/String" "coder" "B" (.int 0)) (Fv : Fld Z h0 oa "java/lang/String" "value" "[B" .null) (ga : n0 ≤ oa) (nac : oa ≠ oc) (Vc : Arv Z h0 oc kC .char (2 : Int32) [(.int c0), (.int c1)] (.int 0)) (uc0 : 0 ≤ c0.toInt) (uc1 : 0 ≤ c1.toInt) (vc0 : c0.toInt < 65536) (vc1 : c1.toInt < 65536) :
    MetFree l yn31 (head1 (Jvm.Cond.code yn31 kc31 2 none :: ws) ⟨5, 2, 6, 74⟩) (fun a U => a = #[(.ref oa), (.ref oc)] ∧ Z.Warmed39 U.vm ∧ U.heap = h0) (fun _ _ _ _ _ => True) (fun _ U o U' => ∃ v L, o = .returned v ∧ Q_mu2 Z oa oc vcs vf kC c0 c1 h0 n0 v U'.heap L ∧ FrameEnd U o U' L 2 6) := by
  refine MetFree.of_bodySF (plainFor_of_name pn_1) hisR ?_
  intro p e s m args below meth c s₁ Bd hml0 hP hK
  obtain ⟨rfl, hZ, hh⟩ := hP
  have hx := Bd.exec
  have hby := Bd.bytes
  have hml : c.maxLocals = 2 := hml0
  have hown : s.vm.findClass "java/lang/String" = some m.cls := findClass_of_methodNamed Bd.named
  have hnm := (name_of_methodNamed Bd.named Bd.method).1
  have X0 : Stand p l e ⟨5, 2, 6, 74⟩ s m #[(.ref oa), (.ref oc)] below meth c s₁ [] 0 0 := Stand.of_body Bd
  have e0 : s₁.heap = h0 := by rw [← hh, Bd.state]; rfl
  have N0 := Fr.nil n0
  obtain ⟨SS, hSS⟩ : ∃ S, S = s₁.setTop (entryFrame m #[(.ref oa), (.ref oc)] 2) := ⟨_, rfl⟩
  have pre0 : oP p e below (s₁.setTop (mkF m 0 #[.val (.ref oa), .val (.ref oc)] [])) (SS) := by
    rw [hSS]; exact fun t k => castTop (ef_rm_mu2 m oa oc) k
  obtain ⟨cl1, Ar1, q1, S1, M1, H1, G1⟩ := id Vc
  obtain ⟨_, _, ⟨T2, L2, k2, n2⟩, -, X2, ⟨Lc2, hQ2, l2, y2, z2⟩, st2⟩ := X0.specialBack hx (y := yn30) rfl hown (mvT hZ (ow hw 12 rfl)) (mvT hZ (ow hw 13 rfl)) (mvT hZ (ow hw 15 rfl)) (by decide) (backOf (W := 0) (rm_iw2 l Z a0 hw [] oa oc vcs vf kC c0 c1 h0 n0 Z0 Os Es Fc Fv ga nac Vc uc0 uc1 vc0 vc1) hZ (ow hw 15 rfl) (ow hw 8 rfl) (by decide) (by decide)) (g := (mkF m 6 #[.val (.ref oa), .val (.ref oc)] [.null, (.int 2), (.int 0), (.ref oc), (.ref oa)])) rfl (by rw [hml]; rfl) (Steps.refl _) (a := oa) (argsL := [(.ref oc), (.int 0), (.int 2), .null]) (rest := []) (lenOf pd_19 rfl) rfl (by exact Nat.le_of_eq rfl) (hb hby d2_6) (fun _ _ => ⟨rfl, e0, (by decide : 0 + 2 ≤ _), (by decide : 0 + 6 ≤ _)⟩)
  dsimp only [Pt.U, Pt.locs, Pt.cells, Pt.slots] at X2 l2 y2 z2 st2 hQ2
  rw [l2, y2, z2] at X2
  obtain ⟨rfl, N2q, K2, A2, ob, kb, gb, szb, Fv2, hO2⟩ := hQ2
  have N2 := Fr.app N0 N2q
  have Zs3 : n0 ≤ T2.heap.size := Nat.le_trans Z0 K2.1
  have ne_oa_ob : oa ≠ ob := Nat.ne_of_lt (Nat.lt_of_lt_of_le Es.lt szb)
  have ne_oc_ob : oc ≠ ob := Nat.ne_of_lt (Nat.lt_of_lt_of_le Vc.lt szb)
  have sz_ob : h0.size ≤ ob := Nat.le_trans (Keep.refl h0 [oa]).1 szb
  subst hSS
  obtain ⟨fs, hr, q1, q2, q3, q4⟩ := X2.leave (v := none) (fun _ => rfl)
  refine ⟨_, _, pre0 _ ?_, q1, q2, _, _, rfl, ?_, ⟨_, rfl⟩, q3, q4.mono (by decide) (by decide)⟩
  · refine XS.aloadN X0.here hx rfl (hb hby d2_0) rfl rfl ?_
    refine XS.aloadN X0.here hx rfl (hb hby d2_1) rfl rfl ?_
    refine XS.iconst X0.here hx rfl (hb hby d2_2) ?_
    refine XS.aloadN X0.here hx rfl (hb hby d2_3) rfl rfl ?_
    refine X0.arraylength hx (by rw [e0]; exact Ar1.1) (State.isArrayOf_alike hZ.alike Ar1.2.1) (g := (mkF m 4 #[.val (.ref oa), .val (.ref oc)] [(.ref oc), (.int 0), (.ref oc), (.ref oa)])) rfl rfl (hb hby d2_4) _ ?_
    rw [len_of S1 M1]
    refine XS.aconstNull X0.here hx rfl (hb hby d2_5) ?_
    refine st2.trans ?_
    exact X2.returnOut hx Bd.returns (hb hby d2_9) hr
  · show Q_mu2 Z _ _ _ _ _ _ _ h0 n0 _ T2.heap _
    have f4 := ((Keep.refl h0 [oa]).trans K2 (allS (P := fun x => x ∈ [oa] ∨ h0.size ≤ x) (Or.inl (List.mem_of_getElem? (i := 0) rfl)) all0))
    exact ⟨rfl, N2, f4, A2, ob, kb, gb, sz_ob, Fv2, hO2⟩
def own_s3 (Z : State) (h : Heap) (oa ob : Addr) (kb : ClassId) (c0 c1 c2 : Int32) : Prop := Exa Z h oa "java/lang/String" ∧ Fld Z h oa "java/lang/String" "value" "[B" (.ref ob) ∧ ((Fld Z h oa "java/lang/String" "coder" "B" (.int 0) ∧ ((c0.toInt ≤ 255 ∧ c1.toInt ≤ 255 ∧ c2.toInt ≤ 255) ∧ ∃ bb0 bb1 bb2 : Int32, Arv Z h ob kb .byte (3 : Int32) [(.int bb0), (.int bb1), (.int bb2)] (.int 0) ∧ bb0.toInt % 256 = c0.toInt ∧ bb1.toInt % 256 = c1.toInt ∧ bb2.toInt % 256 = c2.toInt)) ∨ (Fld Z h oa "java/lang/String" "coder" "B" (.int 1) ∧ (¬ (c0.toInt ≤ 255 ∧ c1.toInt ≤ 255 ∧ c2.toInt ≤ 255) ∧ ∃ lo0 hi0 lo1 hi1 lo2 hi2 : Int32, Arv Z h ob kb .byte (6 : Int32) [(.int lo0), (.int hi0), (.int lo1), (.int hi1), (.int lo2), (.int hi2)] (.int 0) ∧ lo0.toInt % 256 = c0.toInt % 256 ∧ hi0.toInt % 256 = c0.toInt / 256 ∧ lo1.toInt % 256 = c1.toInt % 256 ∧ hi1.toInt % 256 = c1.toInt / 256 ∧ lo2.toInt % 256 = c2.toInt % 256 ∧ hi2.toInt % 256 = c2.toInt / 256)))
theorem ef_rm_nm3 (m : MethodId) (x0 : Addr) : entryFrame m #[(.ref x0)] 1 = mkF m 0 #[.val (.ref x0)] [] := by first | (simp [entryFrame, mkF, argsToLocals, Value.category]; done) | rfl
def Q_nm3 (Z : State) (oa : Addr) (vcs : Int32) (vf : Value) (ob : Addr) (kb : ClassId) (c0 : Int32) (c1 : Int32) (c2 : Int32) (h0 : Heap) (n0 : Nat) (v : Option Value) (h : Heap) (L : List Loc) : Prop := ∃ z : Int32, v = some (.int z) ∧ ((z.toInt = 1 ∧ ¬ (c0.toInt = 0 ∨ c1.toInt = 0 ∨ c2.toInt = 0)) ∨ (z.toInt = 0 ∧ ¬ (¬ (c0.toInt = 0 ∨ c1.toInt = 0 ∨ c2.toInt = 0)))) ∧ Fr n0 L ∧ Keep h0 h []
theorem rm_nm3 (l : Launch) (Z : State) (a0 : Array Value) (hw : ∀ d ∈ tables_1, d.before a0 Z = true) (ws : List Jvm.Cond) (oa : Addr) (vcs : Int32) (vf : Value) (ob : Addr) (kb : ClassId) (c0 : Int32) (c1 : Int32) (c2 : Int32) (h0 : Heap) (n0 : Nat) (Z0 : n0 ≤ h0.size) (Os : own_st Z h0 vcs vf) (Sx : own_s3 Z h0 oa ob kb c0 c1 c2) (uc0 : 0 ≤ c0.toInt) (uc1 : 0 ≤ c1.toInt) (uc2 : 0 ≤ c2.toInt) (vc0 : c0.toInt < 65536) (vc1 : c1.toInt < 65536) (vc2 : c2.toInt < 65536) :
    MetFree l yn22 (head1 (Jvm.Cond.code yn22 kc22 1 (some .boolean) :: ws) ⟨7, 4, 20, 100⟩) (fun a U => a = #[(.ref oa)] ∧ Z.Warmed39 U.vm ∧ U.heap = h0 ∧ CHv Z own_EL U.vm h0) (fun _ _ _ _ _ => True) (fun _ U o U' => ∃ v L, o = .returned v ∧ Q_nm3 Z oa vcs vf ob kb c0 c1 c2 h0 n0 v U'.heap L ∧ CHr Z own_EL U.vm U.heap U'.vm U'.heap ∧ ReturnedEndW U o U' L 4 20) := by
  refine MetFree.of_bodySF (plainFor_of_name pn_5) hisR ?_
  intro p e s m args below meth c s₁ Bd hml0 hP hK
  obtain ⟨rfl, hZ, hh, hC⟩ := hP
  have hx := Bd.exec
  have hby := Bd.bytes
  have hml : c.maxLocals = 1 := hml0
  have hown : s.vm.findClass "com/example/attestbridge/attestbridge/sync/AclPolicy" = some m.cls := findClass_of_methodNamed Bd.named
  have hnm := (name_of_methodNamed Bd.named Bd.method).1
  have X0 : Stand p l e ⟨7, 4, 20, 100⟩ (s.setVm s.vm) m #[(.ref oa)] below meth c s₁ [] 0 0 := Stand.of_body Bd
  have e0 : s₁.heap = h0 := by rw [← hh, Bd.state]; rfl
  have N0 := Fr.nil n0
  have hEL := own_EW hw
  have wS := own_wS hw
  have CR0 : CHr Z own_EL s.vm h0 s.vm h0 := CHr.refl hC
  have hS0 : s.Since s.vm h0.size := (State.WarmedH.refl s).since _
  have hk0 : h0.size ≤ h0.size := Nat.le_refl _
  obtain ⟨SS, hSS⟩ : ∃ S, S = s₁.setTop (entryFrame m #[(.ref oa)] 1) := ⟨_, rfl⟩
  have pre0 : oP p e below (s₁.setTop (mkF m 0 #[.val (.ref oa)] [])) (SS) := by
    rw [hSS]; exact fun t k => castTop (ef_rm_nm3 m oa) k
  obtain ⟨Es, Fv, hO⟩ := id Sx
  rcases hO with ⟨Fc, hall, bb0, bb1, bb2, Vb, qbb0, qbb1, qbb2⟩ | ⟨Fc, hall, lo0, hi0, lo1, hi1, lo2, hi2, Vb, qlo0, qhi0, qlo1, qhi1, qlo2, qhi2⟩
  · have own_m0 := True.intro
    have hy0 := own_byte Vb 0 (by decide) rfl
    have hy1 := own_byte Vb 1 (by decide) rfl
    have hy2 := own_byte Vb 2 (by decide) rfl
    have pre1 : oP p e below (s₁.setTop (mkF m 1 #[.val (.ref oa)] [(.ref oa)])) (SS) := fun t kt => by
      refine pre0 _ ?_
      refine XS.aloadN X0.here hx rfl (hb hby d5_0) rfl rfl ?_
      exact kt
    obtain ⟨cq2, kq2, q2a, q2b, q2c⟩ := isOf hZ e0 Es
    obtain ⟨_, _, ⟨T2, L2, k2, n2⟩, -, X2, ⟨Lc2, hQ2, l2, y2, z2⟩, st2⟩ := X0.virtualBack hx (y := yn1) (z := yn1) hown (mvT hZ (ow hw 31 rfl)) (mvT hZ (ow hw 32 rfl)) (notFace_of_selects (args := #[]) (mvT hZ (ow hw 34 rfl))) (mvT hZ (ow hw 34 rfl)) (mvT hZ (ow hw 33 rfl)) (by decide) (backOf (W := 0) (rm_emp l Z a0 hw [] oa ob kb (3 : Int32) [(.int bb0), (.int bb1), (.int bb2)] h0 n0 Z0 Fv Vb) hZ (ow hw 35 rfl) (ow hw 8 rfl) (by decide) (by decide)) q2a q2c (g := (mkF m 1 #[.val (.ref oa)] [(.ref oa)])) rfl (by rw [hml]; rfl) (Steps.refl _) (argsL := []) (rest := []) (lenOf pd_10 rfl) rfl (by exact Nat.le_of_eq rfl) (hb hby d5_1) (fun _ _ => ⟨rfl, e0, (by decide : 0 + 0 ≤ _), (by decide : 0 + 0 ≤ _)⟩)
    dsimp only [Pt.U, Pt.locs, Pt.cells, Pt.slots] at X2 l2 y2 z2 st2 hQ2
    rw [l2, y2, z2] at X2
    obtain ⟨ze, rfl, hze, N2q, e2⟩ := hQ2
    have N2 := Fr.app N0 N2q
    have pre3 : oP p e below (T2.setTop (mkF m 4 #[.val (.ref oa)] [(.int ze)])) (SS) := fun t kt => by
      refine pre1 _ ?_
      refine st2.trans ?_
      exact kt
    have eze : ze = (0 : Int32) := by
      rcases hze with ⟨_, q⟩ | ⟨q, _⟩
      · exact absurd q (by decide)
      · exact q
    subst eze
    have pre4 : oP p e below (T2.setTop (mkF m 4 #[.val (.ref oa)] [(.int 0)])) (SS) := pre3
    have hc4_5 : (0 : Int) = (0 : Int) := by decide
    have pre6 : oP p e below (T2.setTop (mkF m 8 #[.val (.ref oa)] [(.ref oa)])) (SS) := fun t kt => by
      refine pre4 _ ?_
      refine XS.ifNo X2.here hx rfl (hb hby d5_4) rfl (own_if (own_teq (a := (0 : Int32)) (b := (0 : Int32)) (by decide) (by decide) hc4_5).2) ?_
      refine XS.aloadN X2.here hx rfl (hb hby d5_7) rfl rfl ?_
      exact kt
    obtain ⟨la7, T7, h7, k17, lb7, kb7, X7, e7, E7, hS7, hk7, hZ, hown, A7, Fc7, Fv7, V7, lt7, lu7, CRn7, Lt7, Sf7, st7⟩ := ldcCH X2 hx hZ hown (text := ".") (ow hw 47 rfl) wS e2 hS0 hk0 hEL (List.mem_of_getElem? (i := 0) rfl) CR0.1 (vs := [(.int 46)]) (z := (1 : Int32)) ⟨by decide, by rfl⟩ (by decide) rfl (g := (mkF m 8 #[.val (.ref oa)] [(.ref oa)])) rfl (hb hby d5_8) (n := 4) (by decide) (by decide) (by decide) (by decide)
    have CR8 := CR0.trans CRn7
    have Zs9 : n0 ≤ h7.size := Nat.le_trans Z0 E7.1
    have pre10 : oP p e below (T7.setTop (mkF m 10 #[.val (.ref oa)] [(.ref la7), (.ref oa)])) (SS) := fun t kt => by
      refine pre6 _ ?_
      refine st7 _ ?_
      exact kt
    have os11 := (own_st_ext Os E7)
    have f12 := (Es.ext E7)
    have f13 := (Fc.ext E7)
    have f14 := (Fv.ext E7)
    have f15 := (Vb.ext E7)
    obtain ⟨cq16, kq16, q16a, q16b, q16c⟩ := isOf hZ e7 f12
    obtain ⟨_, _, ⟨T16, L16, k16, n16⟩, -, X16, ⟨Lc16, hQ16, l16, y16, z16⟩, st16⟩ := X7.virtualBack hx (y := yn3) (z := yn3) hown (mvT hZ (ow hw 48 rfl)) (mvT hZ (ow hw 49 rfl)) (notFace_of_selects (args := #[]) (mvT hZ (ow hw 51 rfl))) (mvT hZ (ow hw 51 rfl)) (mvT hZ (ow hw 50 rfl)) (by decide) (backOf (W := 0) (rm_eqN l Z a0 hw [] oa la7 vcs vf ob kb lb7 kb7 (3 : Int32) [(.int bb0), (.int bb1), (.int bb2)] (1 : Int32) [(.int 46)] h7 n0 Zs9 os11 f12 f13 f14 f15 A7 Fc7 Fv7 V7 (by decide) (own_ne_len f14 Fv7 f15 V7 (by decide))) hZ (ow hw 52 rfl) (ow hw 8 rfl) (by decide) (by decide)) q16a q16c (g := (mkF m 10 #[.val (.ref oa)] [(.ref la7), (.ref oa)])) rfl (by rw [hml]; rfl) (Steps.refl _) (argsL := [(.ref la7)]) (rest := []) (lenOf pd_12 rfl) rfl (by exact Nat.le_of_eq rfl) (hb hby d5_10) (fun _ _ => ⟨rfl, e7, (by decide : 2 + 0 ≤ _), (by decide : 8 + 0 ≤ _)⟩)
    dsimp only [Pt.U, Pt.locs, Pt.cells, Pt.slots] at X16 l16 y16 z16 st16 hQ16
    rw [l16, y16, z16] at X16
    obtain ⟨zd, rfl, hzd, N16q, e16⟩ := hQ16
    have N16 := Fr.app N2 N16q
    have pre17 : oP p e below (T16.setTop (mkF m 13 #[.val (.ref oa)] [(.int zd)])) (SS) := fun t kt => by
      refine pre10 _ ?_
      refine st16.trans ?_
      exact kt
    subst hzd
    have pre18 : oP p e below (T16.setTop (mkF m 13 #[.val (.ref oa)] [(.int 0)])) (SS) := pre17
    have hc13_19 : (0 : Int) = (0 : Int) := by decide
    have pre20 : oP p e below (T16.setTop (mkF m 17 #[.val (.ref oa)] [(.ref oa)])) (SS) := fun t kt => by
      refine pre18 _ ?_
      refine XS.ifNo X16.here hx rfl (hb hby d5_13) rfl (own_if (own_teq (a := (0 : Int32)) (b := (0 : Int32)) (by decide) (by decide) hc13_19).2) ?_
      refine XS.aloadN X16.here hx rfl (hb hby d5_16) rfl rfl ?_
      exact kt
    obtain ⟨la21, T21, h21, k121, lb21, kb21, X21, e21, E21, hS21, hk21, hZ, hown, A21, Fc21, Fv21, V21, lt21, lu21, CRn21, Lt21, Sf21, st21⟩ := ldcCH X16 hx hZ hown (text := "..") (ow hw 58 rfl) wS e16 hS7 hk7 hEL (List.mem_of_getElem? (i := 1) rfl) CR8.1 (vs := [(.int 46), (.int 46)]) (z := (2 : Int32)) ⟨by decide, by rfl⟩ (by decide) rfl (g := (mkF m 17 #[.val (.ref oa)] [(.ref oa)])) rfl (hb hby d5_17) (n := 8) (by decide) (by decide) (by decide) (by decide)
    have CR22 := CR8.trans CRn21
    have Zs23 : n0 ≤ h21.size := Nat.le_trans Zs9 E21.1
    have pre24 : oP p e below (T21.setTop (mkF m 19 #[.val (.ref oa)] [(.ref la21), (.ref oa)])) (SS) := fun t kt => by
      refine pre20 _ ?_
      refine st21 _ ?_
      exact kt
    have os25 := (own_st_ext os11 E21)
    have f26 := (f12.ext E21)
    have f27 := (f13.ext E21)
    have f28 := (f14.ext E21)
    have f29 := (f15.ext E21)
    obtain ⟨cq30, kq30, q30a, q30b, q30c⟩ := isOf hZ e21 f26
    obtain ⟨_, _, ⟨T30, L30, k30, n30⟩, -, X30, ⟨Lc30, hQ30, l30, y30, z30⟩, st30⟩ := X21.virtualBack hx (y := yn3) (z := yn3) hown (mvT hZ (ow hw 48 rfl)) (mvT hZ (ow hw 49 rfl)) (notFace_of_selects (args := #[]) (mvT hZ (ow hw 51 rfl))) (mvT hZ (ow hw 51 rfl)) (mvT hZ (ow hw 50 rfl)) (by decide) (backOf (W := 0) (rm_eqN l Z a0 hw [] oa la21 vcs vf ob kb lb21 kb21 (3 : Int32) [(.int bb0), (.int bb1), (.int bb2)] (2 : Int32) [(.int 46), (.int 46)] h21 n0 Zs23 os25 f26 f27 f28 f29 A21 Fc21 Fv21 V21 (by decide) (own_ne_len f28 Fv21 f29 V21 (by decide))) hZ (ow hw 52 rfl) (ow hw 8 rfl) (by decide) (by decide)) q30a q30c (g := (mkF m 19 #[.val (.ref oa)] [(.ref la21), (.ref oa)])) rfl (by rw [hml]; rfl) (Steps.refl _) (argsL := [(.ref la21)]) (rest := []) (lenOf pd_12 rfl) rfl (by exact Nat.le_of_eq rfl) (hb hby d5_19) (fun _ _ => ⟨rfl, e21, (by decide : 4 + 0 ≤ _), (by decide : 20 + 0 ≤ _)⟩)
    dsimp only [Pt.U, Pt.locs, Pt.cells, Pt.slots] at X30 l30 y30 z30 st30 hQ30
    rw [l30, y30, z30] at X30
    obtain ⟨zdd, rfl, hzdd, N30q, e30⟩ := hQ30
    have N30 := Fr.app N16 N30q
    have pre31 : oP p e below (T30.setTop (mkF m 22 #[.val (.ref oa)] [(.int zdd)])) (SS) := fun t kt => by
      refine pre24 _ ?_
      refine st30.trans ?_
      exact kt
    subst hzdd
    have pre32 : oP p e below (T30.setTop (mkF m 22 #[.val (.ref oa)] [(.int 0)])) (SS) := pre31
    have hc22_33 : (0 : Int) = (0 : Int) := by decide
    have pre34 : oP p e below (T30.setTop (mkF m 27 #[.val (.ref oa)] [(.int 0), (.ref oa)])) (SS) := fun t kt => by
      refine pre32 _ ?_
      refine XS.ifNo X30.here hx rfl (hb hby d5_22) rfl (own_if (own_teq (a := (0 : Int32)) (b := (0 : Int32)) (by decide) (by decide) hc22_33).2) ?_
      refine XS.aloadN X30.here hx rfl (hb hby d5_25) rfl rfl ?_
      refine XS.iconst X30.here hx rfl (hb hby d5_26) ?_
      exact kt
    have HH35 := rm_ioc3 l Z a0 hw [] ob vcs vf kb bb0 bb1 bb2 h21 n0 Zs23 os25 f29
    obtain ⟨cq36, kq36, q36a, q36b, q36c⟩ := isOf hZ e30 f26
    obtain ⟨_, _, ⟨T36, L36, k36, n36⟩, -, X36, ⟨Lc36, hQ36, l36, y36, z36⟩, st36⟩ := X30.virtualBack hx (y := yn21) (z := yn21) hown (mvT hZ (ow hw 59 rfl)) (mvT hZ (ow hw 60 rfl)) (notFace_of_selects (args := #[]) (mvT hZ (ow hw 62 rfl))) (mvT hZ (ow hw 62 rfl)) (mvT hZ (ow hw 61 rfl)) (by decide) (backOf (W := 0) (rm_sx0 l Z a0 hw [] oa vcs vf ob kb (3 : Int32) (3 : Int32) [(.int bb0), (.int bb1), (.int bb2)] (fun z => (0 ≤ z.toInt ∧ (bb0.toInt = 0 ∨ bb1.toInt = 0 ∨ bb2.toInt = 0)) ∨ (z.toInt < 0 ∧ ¬ (bb0.toInt = 0 ∨ bb1.toInt = 0 ∨ bb2.toInt = 0))) (Q_ioc3 Z ob vcs vf kb bb0 bb1 bb2 h21 n0) h21 n0 Zs23 os25 f26 f27 f28 f29 (by decide) (by decide) (by decide) HH35 (fun _ _ _ q => q)) hZ (ow hw 63 rfl) (ow hw 8 rfl) (by decide) (by decide)) q36a q36c (g := (mkF m 27 #[.val (.ref oa)] [(.int 0), (.ref oa)])) rfl (by rw [hml]; rfl) (Steps.refl _) (argsL := [(.int 0)]) (rest := []) (lenOf pd_13 rfl) rfl (by exact Nat.le_of_eq rfl) (hb hby d5_27) (fun _ _ => ⟨rfl, e30, (by decide : 4 + 0 ≤ _), (by decide : 20 + 0 ≤ _)⟩)
    dsimp only [Pt.U, Pt.locs, Pt.cells, Pt.slots] at X36 l36 y36 z36 st36 hQ36
    rw [l36, y36, z36] at X36
    obtain ⟨zi, rfl, hzi, N36q, e36⟩ := hQ36
    have N36 := Fr.app N30 N36q
    have pre38 : oP p e below (T36.setTop (mkF m 30 #[.val (.ref oa)] [(.int zi)])) (SS) := fun t kt => by
      refine pre34 _ ?_
      refine st36.trans ?_
      exact kt
    by_cases hc30_37 : zi.toInt < (0 : Int)
    · subst hSS
      obtain ⟨fs, hr, hrun, hended, hREW⟩ := X36.leaveW hS21 (by rw [e36]; exact hk21) (v := some (.int 1)) (fun h => by rw [Bd.returns] at h; cases h)
      refine ⟨_, _, pre38 _ ?_, hrun, hended, _, _, rfl, ?_, ?_, ⟨hREW.1, hREW.2.1, hREW.2.2.1, hREW.2.2.2.mono (by decide) (by decide)⟩⟩
      · refine XS.ifNo X36.here hx rfl (hb hby d5_30) rfl (own_if (own_tlt (a := zi) (b := (0 : Int32)) rfl (by decide) hc30_37).2.1) ?_
        refine XS.iconst X36.here hx rfl (hb hby d5_33) ?_
        refine XS.goto X36.here hx rfl (pc0 := 34) (pc' := 38) rfl (hb hby d5_34) (by decide) (by decide) ?_
        exact retN X36 hx (t := .boolean) Bd.returns (by simp) (hb hby d5_38) hr
      · show Q_nm3 Z _ _ _ _ _ _ _ _ h0 n0 _ T36.heap _
        rw [e36]
        have f39 := (((Keep.refl h0 []).ext E7).ext E21)
        exact ⟨_, rfl, by have iv : ((1 : Int32)).toInt = (1 : Int) := (by decide); omega, N36, f39⟩
      · show CHr Z own_EL s.vm s.heap T36.vm T36.heap
        rw [hh, e36]
        exact CR22.trans (CHv.at X36 hZ hEL CR22.1)
    · subst hSS
      obtain ⟨fs, hr, hrun, hended, hREW⟩ := X36.leaveW hS21 (by rw [e36]; exact hk21) (v := some (.int 0)) (fun h => by rw [Bd.returns] at h; cases h)
      refine ⟨_, _, pre38 _ ?_, hrun, hended, _, _, rfl, ?_, ?_, ⟨hREW.1, hREW.2.1, hREW.2.2.1, hREW.2.2.2.mono (by decide) (by decide)⟩⟩
      · refine XS.ifYes X36.here hx rfl (pc0 := 30) (pc' := 37) rfl (hb hby d5_30) rfl (own_if (own_flt (a := zi) (b := (0 : Int32)) rfl (by decide) hc30_37).2.1) (by decide) (by decide) ?_
        refine XS.iconst X36.here hx rfl (hb hby d5_37) ?_
        exact retN X36 hx (t := .boolean) Bd.returns (by simp) (hb hby d5_38) hr
      · show Q_nm3 Z _ _ _ _ _ _ _ _ h0 n0 _ T36.heap _
        rw [e36]
        have f40 := (((Keep.refl h0 []).ext E7).ext E21)
        exact ⟨_, rfl, by have iv : ((0 : Int32)).toInt = (0 : Int) := (by decide); omega, N36, f40⟩
      · show CHr Z own_EL s.vm s.heap T36.vm T36.heap
        rw [hh, e36]
        exact CR22.trans (CHv.at X36 hZ hEL CR22.1)
  · have own_m1 := True.intro
    have pre41 : oP p e below (s₁.setTop (mkF m 1 #[.val (.ref oa)] [(.ref oa)])) (SS) := fun t kt => by
      refine pre0 _ ?_
      refine XS.aloadN X0.here hx rfl (hb hby d5_0) rfl rfl ?_
      exact kt
    obtain ⟨cq42, kq42, q42a, q42b, q42c⟩ := isOf hZ e0 Es
    obtain ⟨_, _, ⟨T42, L42, k42, n42⟩, -, X42, ⟨Lc42, hQ42, l42, y42, z42⟩, st42⟩ := X0.virtualBack hx (y := yn1) (z := yn1) hown (mvT hZ (ow hw 31 rfl)) (mvT hZ (ow hw 32 rfl)) (notFace_of_selects (args := #[]) (mvT hZ (ow hw 34 rfl))) (mvT hZ (ow hw 34 rfl)) (mvT hZ (ow hw 33 rfl)) (by decide) (backOf (W := 0) (rm_emp l Z a0 hw [] oa ob kb (6 : Int32) [(.int lo0), (.int hi0), (.int lo1), (.int hi1), (.int lo2), (.int hi2)] h0 n0 Z0 Fv Vb) hZ (ow hw 35 rfl) (ow hw 8 rfl) (by decide) (by decide)) q42a q42c (g := (mkF m 1 #[.val (.ref oa)] [(.ref oa)])) rfl (by rw [hml]; rfl) (Steps.refl _) (argsL := []) (rest := []) (lenOf pd_10 rfl) rfl (by exact Nat.le_of_eq rfl) (hb hby d5_1) (fun _ _ => ⟨rfl, e0, (by decide : 0 + 0 ≤ _), (by decide : 0 + 0 ≤ _)⟩)
    dsimp only [Pt.U, Pt.locs, Pt.cells, Pt.slots] at X42 l42 y42 z42 st42 hQ42
    rw [l42, y42, z42] at X42
    obtain ⟨ze, rfl, hze, N42q, e42⟩ := hQ42
    have N42 := Fr.app N0 N42q
    have pre43 : oP p e below (T42.setTop (mkF m 4 #[.val (.ref oa)] [(.int ze)])) (SS) := fun t kt => by
      refine pre41 _ ?_
      refine st42.trans ?_
      exact kt
    have eze : ze = (0 : Int32) := by
      rcases hze with ⟨_, q⟩ | ⟨q, _⟩
      · exact absurd q (by decide)
      · exact q
    subst eze
    have pre44 : oP p e below (T42.setTop (mkF m 4 #[.val (.ref oa)] [(.int 0)])) (SS) := pre43
    have hc4_45 : (0 : Int) = (0 : Int) := by decide
    have pre46 : oP p e below (T42.setTop (mkF m 8 #[.val (.ref oa)] [(.ref oa)])) (SS) := fun t kt => by
      refine pre44 _ ?_
      refine XS.ifNo X42.here hx rfl (hb hby d5_4) rfl (own_if (own_teq (a := (0 : Int32)) (b := (0 : Int32)) (by decide) (by decide) hc4_45).2) ?_
      refine XS.aloadN X42.here hx rfl (hb hby d5_7) rfl rfl ?_
      exact kt
    obtain ⟨la47, T47, h47, k147, lb47, kb47, X47, e47, E47, hS47, hk47, hZ, hown, A47, Fc47, Fv47, V47, lt47, lu47, CRn47, Lt47, Sf47, st47⟩ := ldcCH X42 hx hZ hown (text := ".") (ow hw 47 rfl) wS e42 hS0 hk0 hEL (List.mem_of_getElem? (i := 0) rfl) CR0.1 (vs := [(.int 46)]) (z := (1 : Int32)) ⟨by decide, by rfl⟩ (by decide) rfl (g := (mkF m 8 #[.val (.ref oa)] [(.ref oa)])) rfl (hb hby d5_8) (n := 4) (by decide) (by decide) (by decide) (by decide)
    have CR48 := CR0.trans CRn47
    have Zs49 : n0 ≤ h47.size := Nat.le_trans Z0 E47.1
    have pre50 : oP p e below (T47.setTop (mkF m 10 #[.val (.ref oa)] [(.ref la47), (.ref oa)])) (SS) := fun t kt => by
      refine pre46 _ ?_
      refine st47 _ ?_
      exact kt
    have os51 := (own_st_ext Os E47)
    have f52 := (Es.ext E47)
    have f53 := (Fc.ext E47)
    have f54 := (Fv.ext E47)
    have f55 := (Vb.ext E47)
    obtain ⟨cq56, kq56, q56a, q56b, q56c⟩ := isOf hZ e47 f52
    obtain ⟨_, _, ⟨T56, L56, k56, n56⟩, -, X56, ⟨Lc56, hQ56, l56, y56, z56⟩, st56⟩ := X47.virtualBack hx (y := yn3) (z := yn3) hown (mvT hZ (ow hw 48 rfl)) (mvT hZ (ow hw 49 rfl)) (notFace_of_selects (args := #[]) (mvT hZ (ow hw 51 rfl))) (mvT hZ (ow hw 51 rfl)) (mvT hZ (ow hw 50 rfl)) (by decide) (backOf (W := 0) (rm_eqU l Z a0 hw [] oa la47 vcs vf ob kb lb47 kb47 (6 : Int32) [(.int lo0), (.int hi0), (.int lo1), (.int hi1), (.int lo2), (.int hi2)] (1 : Int32) [(.int 46)] h47 n0 Zs49 os51 f52 f53 f54 f55 A47 Fc47 Fv47 V47 (own_ne_cod f53 Fc47)) hZ (ow hw 52 rfl) (ow hw 8 rfl) (by decide) (by decide)) q56a q56c (g := (mkF m 10 #[.val (.ref oa)] [(.ref la47), (.ref oa)])) rfl (by rw [hml]; rfl) (Steps.refl _) (argsL := [(.ref la47)]) (rest := []) (lenOf pd_12 rfl) rfl (by exact Nat.le_of_eq rfl) (hb hby d5_10) (fun _ _ => ⟨rfl, e47, (by decide : 2 + 0 ≤ _), (by decide : 8 + 0 ≤ _)⟩)
    dsimp only [Pt.U, Pt.locs, Pt.cells, Pt.slots] at X56 l56 y56 z56 st56 hQ56
    rw [l56, y56, z56] at X56
    obtain ⟨zd, rfl, hzd, N56q, e56⟩ := hQ56
    have N56 := Fr.app N42 N56q
    have pre57 : oP p e below (T56.setTop (mkF m 13 #[.val (.ref oa)] [(.int zd)])) (SS) := fun t kt => by
      refine pre50 _ ?_
      refine st56.trans ?_
      exact kt
    subst hzd
    have pre58 : oP p e below (T56.setTop (mkF m 13 #[.val (.ref oa)] [(.int 0)])) (SS) := pre57
    have hc13_59 : (0 : Int) = (0 : Int) := by decide
    have pre60 : oP p e below (T56.setTop (mkF m 17 #[.val (.ref oa)] [(.ref oa)])) (SS) := fun t kt => by
      refine pre58 _ ?_
      refine XS.ifNo X56.here hx rfl (hb hby d5_13) rfl (own_if (own_teq (a := (0 : Int32)) (b := (0 : Int32)) (by decide) (by decide) hc13_59).2) ?_
      refine XS.aloadN X56.here hx rfl (hb hby d5_16) rfl rfl ?_
      exact kt
    obtain ⟨la61, T61, h61, k161, lb61, kb61, X61, e61, E61, hS61, hk61, hZ, hown, A61, Fc61, Fv61, V61, lt61, lu61, CRn61, Lt61, Sf61, st61⟩ := ldcCH X56 hx hZ hown (text := "..") (ow hw 58 rfl) wS e56 hS47 hk47 hEL (List.mem_of_getElem? (i := 1) rfl) CR48.1 (vs := [(.int 46), (.int 46)]) (z := (2 : Int32)) ⟨by decide, by rfl⟩ (by decide) rfl (g := (mkF m 17 #[.val (.ref oa)] [(.ref oa)])) rfl (hb hby d5_17) (n := 8) (by decide) (by decide) (by decide) (by decide)
    have CR62 := CR48.trans CRn61
    have Zs63 : n0 ≤ h61.size := Nat.le_trans Zs49 E61.1
    have pre64 : oP p e below (T61.setTop (mkF m 19 #[.val (.ref oa)] [(.ref la61), (.ref oa)])) (SS) := fun t kt => by
      refine pre60 _ ?_
      refine st61 _ ?_
      exact kt
    have os65 := (own_st_ext os51 E61)
    have f66 := (f52.ext E61)
    have f67 := (f53.ext E61)
    have f68 := (f54.ext E61)
    have f69 := (f55.ext E61)
    obtain ⟨cq70, kq70, q70a, q70b, q70c⟩ := isOf hZ e61 f66
    obtain ⟨_, _, ⟨T70, L70, k70, n70⟩, -, X70, ⟨Lc70, hQ70, l70, y70, z70⟩, st70⟩ := X61.virtualBack hx (y := yn3) (z := yn3) hown (mvT hZ (ow hw 48 rfl)) (mvT hZ (ow hw 49 rfl)) (notFace_of_selects (args := #[]) (mvT hZ (ow hw 51 rfl))) (mvT hZ (ow hw 51 rfl)) (mvT hZ (ow hw 50 rfl)) (by decide) (backOf (W := 0) (rm_eqU l Z a0 hw [] oa la61 vcs vf ob kb lb61 kb61 (6 : Int32) [(.int lo0), (.int hi0), (.int lo1), (.int hi1), (.int lo2), (.int hi2)] (2 : Int32) [(.int 46), (.int 46)] h61 n0 Zs63 os65 f66 f67 f68 f69 A61 Fc61 Fv61 V61 (own_ne_cod f67 Fc61)) hZ (ow hw 52 rfl) (ow hw 8 rfl) (by decide) (by decide)) q70a q70c (g := (mkF m 19 #[.val (.ref oa)] [(.ref la61), (.ref oa)])) rfl (by rw [hml]; rfl) (Steps.refl _) (argsL := [(.ref la61)]) (rest := []) (lenOf pd_12 rfl) rfl (by exact Nat.le_of_eq rfl) (hb hby d5_19) (fun _ _ => ⟨rfl, e61, (by decide : 4 + 0 ≤ _), (by decide : 20 + 0 ≤ _)⟩)
    dsimp only [Pt.U, Pt.locs, Pt.cells, Pt.slots] at X70 l70 y70 z70 st70 hQ70
    rw [l70, y70, z70] at X70
    obtain ⟨zdd, rfl, hzdd, N70q, e70⟩ := hQ70
    have N70 := Fr.app N56 N70q
    have pre71 : oP p e below (T70.setTop (mkF m 22 #[.val (.ref oa)] [(.int zdd)])) (SS) := fun t kt => by
      refine pre64 _ ?_
      refine st70.trans ?_
      exact kt
    subst hzdd
    have pre72 : oP p e below (T70.setTop (mkF m 22 #[.val (.ref oa)] [(.int 0)])) (SS) := pre71
    have hc22_73 : (0 : Int) = (0 : Int) := by decide
    have pre74 : oP p e below (T70.setTop (mkF m 27 #[.val (.ref oa)] [(.int 0), (.ref oa)])) (SS) := fun t kt => by
      refine pre72 _ ?_
      refine XS.ifNo X70.here hx rfl (hb hby d5_22) rfl (own_if (own_teq (a := (0 : Int32)) (b := (0 : Int32)) (by decide) (by decide) hc22_73).2) ?_
      refine XS.aloadN X70.here hx rfl (hb hby d5_25) rfl rfl ?_
      refine XS.iconst X70.here hx rfl (hb hby d5_26) ?_
      exact kt
    have HH75 := rm_iu3 l Z a0 hw [] ob vcs vf kb lo0 hi0 lo1 hi1 lo2 hi2 h61 n0 Zs63 os65 f69
    obtain ⟨cq76, kq76, q76a, q76b, q76c⟩ := isOf hZ e70 f66
    obtain ⟨_, _, ⟨T76, L76, k76, n76⟩, -, X76, ⟨Lc76, hQ76, l76, y76, z76⟩, st76⟩ := X70.virtualBack hx (y := yn21) (z := yn21) hown (mvT hZ (ow hw 59 rfl)) (mvT hZ (ow hw 60 rfl)) (notFace_of_selects (args := #[]) (mvT hZ (ow hw 62 rfl))) (mvT hZ (ow hw 62 rfl)) (mvT hZ (ow hw 61 rfl)) (by decide) (backOf (W := 0) (rm_sx1 l Z a0 hw [] oa vcs vf ob kb (3 : Int32) (6 : Int32) [(.int lo0), (.int hi0), (.int lo1), (.int hi1), (.int lo2), (.int hi2)] (fun z => (0 ≤ z.toInt ∧ ((lo0.toInt % 256 + 256 * (hi0.toInt % 256)) = 0 ∨ (lo1.toInt % 256 + 256 * (hi1.toInt % 256)) = 0 ∨ (lo2.toInt % 256 + 256 * (hi2.toInt % 256)) = 0)) ∨ (z.toInt < 0 ∧ ¬ ((lo0.toInt % 256 + 256 * (hi0.toInt % 256)) = 0 ∨ (lo1.toInt % 256 + 256 * (hi1.toInt % 256)) = 0 ∨ (lo2.toInt % 256 + 256 * (hi2.toInt % 256)) = 0))) (Q_iu3 Z ob vcs vf kb lo0 hi0 lo1 hi1 lo2 hi2 h61 n0) h61 n0 Zs63 os65 f66 f67 f68 f69 (by decide) (by decide) (by decide) HH75 (fun _ _ _ q => q)) hZ (ow hw 63 rfl) (ow hw 8 rfl) (by decide) (by decide)) q76a q76c (g := (mkF m 27 #[.val (.ref oa)] [(.int 0), (.ref oa)])) rfl (by rw [hml]; rfl) (Steps.refl _) (argsL := [(.int 0)]) (rest := []) (lenOf pd_13 rfl) rfl (by exact Nat.le_of_eq rfl) (hb hby d5_27) (fun _ _ => ⟨rfl, e70, (by decide : 4 + 0 ≤ _), (by decide : 20 + 0 ≤ _)⟩)
    dsimp only [Pt.U, Pt.locs, Pt.cells, Pt.slots] at X76 l76 y76 z76 st76 hQ76
    rw [l76, y76, z76] at X76
    obtain ⟨zi, rfl, hzi, N76q, e76⟩ := hQ76
    have N76 := Fr.app N70 N76q
    have pre78 : oP p e below (T76.setTop (mkF m 30 #[.val (.ref oa)] [(.int zi)])) (SS) := fun t kt => by
      refine pre74 _ ?_
      refine st76.trans ?_
      exact kt
    by_cases hc30_77 : zi.toInt < (0 : Int)
    · subst hSS
      obtain ⟨fs, hr, hrun, hended, hREW⟩ := X76.leaveW hS61 (by rw [e76]; exact hk61) (v := some (.int 1)) (fun h => by rw [Bd.returns] at h; cases h)
      refine ⟨_, _, pre78 _ ?_, hrun, hended, _, _, rfl, ?_, ?_, ⟨hREW.1, hREW.2.1, hREW.2.2.1, hREW.2.2.2.mono (by decide) (by decide)⟩⟩
      · refine XS.ifNo X76.here hx rfl (hb hby d5_30) rfl (own_if (own_tlt (a := zi) (b := (0 : Int32)) rfl (by decide) hc30_77).2.1) ?_
        refine XS.iconst X76.here hx rfl (hb hby d5_33) ?_
        refine XS.goto X76.here hx rfl (pc0 := 34) (pc' := 38) rfl (hb hby d5_34) (by decide) (by decide) ?_
        exact retN X76 hx (t := .boolean) Bd.returns (by simp) (hb hby d5_38) hr
      · show Q_nm3 Z _ _ _ _ _ _ _ _ h0 n0 _ T76.heap _
        rw [e76]
        have f79 := (((Keep.refl h0 []).ext E47).ext E61)
        exact ⟨_, rfl, by have iv : ((1 : Int32)).toInt = (1 : Int) := (by decide); omega, N76, f79⟩
      · show CHr Z own_EL s.vm s.heap T76.vm T76.heap
        rw [hh, e76]
        exact CR62.trans (CHv.at X76 hZ hEL CR62.1)
    · subst hSS
      obtain ⟨fs, hr, hrun, hended, hREW⟩ := X76.leaveW hS61 (by rw [e76]; exact hk61) (v := some (.int 0)) (fun h => by rw [Bd.returns] at h; cases h)
      refine ⟨_, _, pre78 _ ?_, hrun, hended, _, _, rfl, ?_, ?_, ⟨hREW.1, hREW.2.1, hREW.2.2.1, hREW.2.2.2.mono (by decide) (by decide)⟩⟩
      · refine XS.ifYes X76.here hx rfl (pc0 := 30) (pc' := 37) rfl (hb hby d5_30) rfl (own_if (own_flt (a := zi) (b := (0 : Int32)) rfl (by decide) hc30_77).2.1) (by decide) (by decide) ?_
        refine XS.iconst X76.here hx rfl (hb hby d5_37) ?_
        exact retN X76 hx (t := .boolean) Bd.returns (by simp) (hb hby d5_38) hr
      · show Q_nm3 Z _ _ _ _ _ _ _ _ h0 n0 _ T76.heap _
        rw [e76]
        have f80 := (((Keep.refl h0 []).ext E47).ext E61)
        exact ⟨_, rfl, by have iv : ((0 : Int32)).toInt = (0 : Int) := (by decide); omega, N76, f80⟩
      · show CHr Z own_EL s.vm s.heap T76.vm T76.heap
        rw [hh, e76]
        exact CR62.trans (CHv.at X76 hZ hEL CR62.1)
theorem ef_rm_nbf3 (m : MethodId)  : entryFrame m #[(.int 3)] 1 = mkF m 0 #[.val (.int 3)] [] := by first | (simp [entryFrame, mkF, argsToLocals, Value.category]; done) | rfl
def Q_nbf3 (Z : State)  (h0 : Heap) (n0 : Nat) (v : Option Value) (h : Heap) (L : List Loc) : Prop := ∃ (ob : Addr) (kb : ClassId), v = some (.ref ob) ∧ Fr n0 L ∧ Keep h0 h [] ∧ n0 ≤ ob ∧ h0.size ≤ ob ∧ Arv Z h ob kb .byte (6 : Int32) [(.int 0), (.int 0), (.int 0), (.int 0), (.int 0), (.int 0)] (.int 0)
theorem rm_nbf3 (l : Launch) (Z : State) (a0 : Array Value) (hw : ∀ d ∈ tables_1, d.before a0 Z = true) (ws : List Jvm.Cond)  (h0 : Heap) (n0 : Nat) (Z0 : n0 ≤ h0.size) :
    MetFree l yn24 (head1 (Jvm.Cond.code yn24 kc24 1 (some (.array .byte)) :: ws) ⟨1, 1, 6, 12⟩) (fun a U => a = #[(.int 3)] ∧ Z.Warmed39 U.vm ∧ U.heap = h0) (fun _ _ _ _ _ => True) (fun _ U o U' => ∃ v L, o = .returned v ∧ Q_nbf3 Z  h0 n0 v U'.heap L ∧ FrameEnd U o U' L 1 6) := by
  refine MetFree.of_bodySF (plainFor_of_name pn_3) hisR ?_
  intro p e s m args below meth c s₁ Bd hml0 hP hK
  obtain ⟨rfl, hZ, hh⟩ := hP
  have hx := Bd.exec
  have hby := Bd.bytes
  have hml : c.maxLocals = 1 := hml0
  have hown : s.vm.findClass "java/lang/StringUTF16" = some m.cls := findClass_of_methodNamed Bd.named
  have hnm := (name_of_methodNamed Bd.named Bd.method).1
  have X0 : Stand p l e ⟨1, 1, 6, 12⟩ s m #[(.int 3)] below meth c s₁ [] 0 0 := Stand.of_body Bd
  have e0 : s₁.heap = h0 := by rw [← hh, Bd.state]; rfl
  have N0 := Fr.nil n0
  obtain ⟨SS, hSS⟩ : ∃ S, S = s₁.setTop (entryFrame m #[(.int 3)] 1) := ⟨_, rfl⟩
  have pre0 : oP p e below (s₁.setTop (mkF m 0 #[.val (.int 3)] [])) (SS) := by
    rw [hSS]; exact fun t k => castTop (ef_rm_nbf3 m ) k
  obtain ⟨_, _, ⟨T1, L1, k1, n1⟩, -, X1, ⟨Lc1, hQ1, l1, y1, z1⟩, st1⟩ := Jvm.LawKit.callS X0 hx (y := yn23) hown (mvT hZ (ow hw 106 rfl)) (mvT hZ (ow hw 107 rfl)) (mvT hZ (ow hw 39 rfl)) (mvT hZ (ow hw 108 rfl)) (by decide) (backOf (W := 0) (rm_nbl l Z a0 hw [] (3 : Int32) h0 n0 Z0 (by decide) (by decide)) hZ (ow hw 108 rfl) (ow hw 39 rfl) (by decide) (by decide)) (g := (mkF m 1 #[.val (.int 3)] [(.int 3)])) rfl (by rw [hml]; rfl) (argsL := [(.int 3)]) (rest := []) (lenOf pd_13 rfl) rfl (by exact Nat.le_of_eq rfl) (hb hby d23_1) (fun _ _ => ⟨rfl, e0, (by decide : 0 + 0 ≤ _), (by decide : 0 + 0 ≤ _)⟩)
  dsimp only [Pt.U, Pt.locs, Pt.cells, Pt.slots] at X1 l1 y1 z1 st1 hQ1
  rw [l1, y1, z1] at X1
  obtain ⟨zz, rfl, hzz, N1q, e1⟩ := hQ1
  have N1 := Fr.app N0 N1q
  have pre2 : oP p e below (T1.setTop (mkF m 4 #[.val (.int 3)] [(.int zz)])) (SS) := fun t kt => by
    refine pre0 _ ?_
    refine XS.iloadN X0.here hx rfl (hb hby d23_0) rfl ?_
    refine st1 _ ?_
    exact kt
  have ezz : zz = (6 : Int32) := Int32.toInt_inj.mp (by rw [hzz]; decide)
  subst ezz
  have pre3 : oP p e below (T1.setTop (mkF m 4 #[.val (.int 3)] [(.int 6)])) (SS) := pre2
  obtain ⟨T4, h4, k4, X4, e4, E4, A4, st4⟩ := newP X1 hx hZ (ow hw 20 rfl) e1 (g := (mkF m 4 #[.val (.int 3)] [(.int 6)])) rfl (hb hby d23_4) rfl (by decide) (cap := 6) (by decide) (by decide) (by decide) (by decide)
  obtain ⟨b4, g4⟩ : ∃ z, z = h0.size := ⟨_, rfl⟩
  have g_b4 : n0 ≤ b4 := Nat.le_trans Z0 (Nat.le_of_eq g4.symm)
  have sz_b4 : h0.size ≤ b4 := Nat.le_trans (Keep.refl h0 []).1 (Nat.le_of_eq g4.symm)
  rw [← g4] at A4 st4
  have Zs5 : n0 ≤ h4.size := Nat.le_trans Z0 E4.1
  have V4 : Arv Z h4 b4 k4 .byte (6 : Int32) [(.int 0), (.int 0), (.int 0), (.int 0), (.int 0), (.int 0)] (.int 0) := (Arv.new A4 (by decide)).pad (pad_rep [] (.int 0) 6)
  subst hSS
  obtain ⟨fs, hr, q1, q2, q3, q4⟩ := X4.leave (v := some (.ref b4)) (fun h => by rw [Bd.returns] at h; cases h)
  refine ⟨_, _, pre3 _ ?_, q1, q2, _, _, rfl, ?_, ⟨_, rfl⟩, q3, q4.mono (by decide) (by decide)⟩
  · refine st4 _ ?_
    jvm_step X4.here [X4.here.top, hx, (hb hby d23_6), X4.method', Bd.returns, Value.isRef, FieldType.isReference]
    first | (intro acts; rw [hr _ acts rfl rfl rfl]) | rw [hr _ _ rfl rfl rfl]
    exact Steps.refl _
  · show Q_nbf3 Z  h0 n0 _ T4.heap _
    rw [e4]
    have f6 := ((Keep.refl h0 []).ext E4)
    exact ⟨b4, _, rfl, N1, f6, g_b4, sz_b4, V4⟩
theorem ef_rm_tb3 (m : MethodId) (x0 : Addr) : entryFrame m #[(.ref x0), (.int 0), (.int 3)] 5 = mkF m 0 #[.val (.ref x0), .val (.int 0), .val (.int 3), .unset, .unset] [] := by first | (simp [entryFrame, mkF, argsToLocals, Value.category]; done) | rfl
def Q_tb3 (Z : State) (oc : Addr) (vcs : Int32) (vf : Value) (kC : ClassId) (c0 : Int32) (c1 : Int32) (c2 : Int32) (h0 : Heap) (n0 : Nat) (v : Option Value) (h : Heap) (L : List Loc) : Prop := ∃ (ob : Addr) (kb : ClassId) (lo0 hi0 lo1 hi1 lo2 hi2 : Int32), v = some (.ref ob) ∧ Fr n0 L ∧ Keep h0 h [] ∧ n0 ≤ ob ∧ h0.size ≤ ob ∧ Arv Z h ob kb .byte (6 : Int32) [(.int lo0), (.int hi0), (.int lo1), (.int hi1), (.int lo2), (.int hi2)] (.int 0) ∧ lo0.toInt % 256 = c0.toInt % 256 ∧ hi0.toInt % 256 = c0.toInt / 256 ∧ lo1.toInt % 256 = c1.toInt % 256 ∧ hi1.toInt % 256 = c1.toInt / 256 ∧ lo2.toInt % 256 = c2.toInt % 256 ∧ hi2.toInt % 256 = c2.toInt / 256
theorem rm_tb3 (l : Launch) (Z : State) (a0 : Array Value) (hw : ∀ d ∈ tables_1, d.before a0 Z = true) (ws : List Jvm.Cond) (oc : Addr) (vcs : Int32) (vf : Value) (kC : ClassId) (c0 : Int32) (c1 : Int32) (c2 : Int32) (h0 : Heap) (n0 : Nat) (Z0 : n0 ≤ h0.size) (Os : own_st Z h0 vcs vf) (Vc : Arv Z h0 oc kC .char (3 : Int32) [(.int c0), (.int c1), (.int c2)] (.int 0)) (uc0 : 0 ≤ c0.toInt) (uc1 : 0 ≤ c1.toInt) (uc2 : 0 ≤ c2.toInt) (vc0 : c0.toInt < 65536) (vc1 : c1.toInt < 65536) (vc2 : c2.toInt < 65536) :
    MetFree l yn26 (head1 (Jvm.Cond.code yn26 kc26 5 (some (.array .byte)) :: ws) ⟨2, 1, 6, 24⟩) (fun a U => a = #[(.ref oc), (.int 0), (.int 3)] ∧ Z.Warmed39 U.vm ∧ U.heap = h0) (fun _ _ _ _ _ => True) (fun _ U o U' => ∃ v L, o = .returned v ∧ Q_tb3 Z oc vcs vf kC c0 c1 c2 h0 n0 v U'.heap L ∧ FrameEnd U o U' L 1 6) := by
  refine MetFree.of_bodySF (plainFor_of_name pn_3) hisR ?_
  intro p e s m args below meth c s₁ Bd hml0 hP hK
  obtain ⟨rfl, hZ, hh⟩ := hP
  have hx := Bd.exec
  have hby := Bd.bytes
  have hml : c.maxLocals = 5 := hml0
  have hown : s.vm.findClass "java/lang/StringUTF16" = some m.cls := findClass_of_methodNamed Bd.named
  have hnm := (name_of_methodNamed Bd.named Bd.method).1
  have X0 : Stand p l e ⟨2, 1, 6, 24⟩ s m #[(.ref oc), (.int 0), (.int 3)] below meth c s₁ [] 0 0 := Stand.of_body Bd
  have e0 : s₁.heap = h0 := by rw [← hh, Bd.state]; rfl
  have N0 := Fr.nil n0
  obtain ⟨SS, hSS⟩ : ∃ S, S = s₁.setTop (entryFrame m #[(.ref oc), (.int 0), (.int 3)] 5) := ⟨_, rfl⟩
  have pre0 : oP p e below (s₁.setTop (mkF m 0 #[.val (.ref oc), .val (.int 0), .val (.int 3), .unset, .unset] [])) (SS) := by
    rw [hSS]; exact fun t k => castTop (ef_rm_tb3 m oc) k
  obtain ⟨_, _, ⟨T1, L1, k1, n1⟩, -, X1, ⟨Lc1, hQ1, l1, y1, z1⟩, st1⟩ := Jvm.LawKit.callS X0 hx (y := yn24) hown (mvT hZ (ow hw 103 rfl)) (mvT hZ (ow hw 104 rfl)) (mvT hZ (ow hw 39 rfl)) (mvT hZ (ow hw 105 rfl)) (by decide) (backOf (W := 0) (rm_nbf3 l Z a0 hw []  h0 n0 Z0 ) hZ (ow hw 105 rfl) (ow hw 39 rfl) (by decide) (by decide)) (g := (mkF m 1 #[.val (.ref oc), .val (.int 0), .val (.int 3), .unset, .unset] [(.int 3)])) rfl (by rw [hml]; rfl) (argsL := [(.int 3)]) (rest := []) (lenOf pd_14 rfl) rfl (by exact Nat.le_of_eq rfl) (hb hby d22_1) (fun _ _ => ⟨rfl, e0, (by decide : 0 + 1 ≤ _), (by decide : 0 + 6 ≤ _)⟩)
  dsimp only [Pt.U, Pt.locs, Pt.cells, Pt.slots] at X1 l1 y1 z1 st1 hQ1
  rw [l1, y1, z1] at X1
  obtain ⟨ob, kb, rfl, N1q, K1, gb, szb, Vb1⟩ := hQ1
  have N1 := Fr.app N0 N1q
  have Zs2 : n0 ≤ T1.heap.size := Nat.le_trans Z0 K1.1
  have ne_oc_ob : oc ≠ ob := Nat.ne_of_lt (Nat.lt_of_lt_of_le Vc.lt szb)
  have sz_ob : h0.size ≤ ob := Nat.le_trans (Keep.refl h0 []).1 szb
  have hc11_3 : (0 : Int) < (3 : Int) := by decide
  have f4 := (Vc.keep K1 nin0)
  obtain ⟨cl5, Ar5, q5, S5, M5, H5, G5⟩ := id f4
  have hin5 : ¬ ((0 : Int32) < 0 ∨ cl5.slots.size ≤ ((0 : Int32)).toNatClampNeg) := inb_of S5 ⟨by decide, by decide⟩
  have hat5 : cl5.slots[((0 : Int32)).toNatClampNeg]? = some (.int c0) := Has.at H5 hin5 rfl
  have os7 := (own_st_keep Os K1 ns0)
  obtain ⟨_, _, ⟨T6, L6, k6, n6⟩, -, X6, ⟨Lc6, hQ6, l6, y6, z6⟩, st6⟩ := Jvm.LawKit.callS X1 hx (y := yn25) hown (mvT hZ (ow hw 110 rfl)) (mvT hZ (ow hw 111 rfl)) (mvT hZ (ow hw 39 rfl)) (mvT hZ (ow hw 112 rfl)) (by decide) (backOf (W := 0) (rm_pc l Z a0 hw [] ob (0 : Int32) c0 vcs vf kb (6 : Int32) [(.int 0), (.int 0), (.int 0), (.int 0), (.int 0), (.int 0)] 0 T1.heap n0 Zs2 os7 Vb1 gb (by decide) (by decide) (by decide) (Nat.le_of_ble_eq_true rfl) uc0 vc0) hZ (ow hw 112 rfl) (ow hw 39 rfl) (by decide) (by decide)) (g := (mkF m 20 #[.val (.ref oc), .val (.int 0), .val (.int 3), .val (.ref ob), .val (.int 0)] [(.int c0), (.int 0), (.ref ob)])) rfl (by rw [hml]; rfl) (argsL := [(.ref ob), (.int 0), (.int c0)]) (rest := []) (lenOf pd_15 rfl) rfl (by exact Nat.le_of_eq rfl) (hb hby d22_20) (fun _ _ => ⟨rfl, rfl, (by decide : 1 + 0 ≤ _), (by decide : 6 + 0 ≤ _)⟩)
  dsimp only [Pt.U, Pt.locs, Pt.cells, Pt.slots] at X6 l6 y6 z6 st6 hQ6
  rw [l6, y6, z6] at X6
  obtain ⟨lo0, hi0, rfl, N6q, K6, Vb6, ql0, qh0⟩ := hQ6
  have N6 := Fr.app N1 N6q
  have Zs8 : n0 ≤ T6.heap.size := Nat.le_trans Zs2 K6.1
  have Vb6 : Arv Z T6.heap ob kb .byte (6 : Int32) [(.int lo0), (.int hi0), (.int 0), (.int 0), (.int 0), (.int 0)] (.int 0) := Vb6
  have hc11_9 : (1 : Int) < (3 : Int) := by decide
  have f10 := (f4.keep K6 (ninS ne_oc_ob nin0))
  obtain ⟨cl11, Ar11, q11, S11, M11, H11, G11⟩ := id f10
  have hin11 : ¬ ((1 : Int32) < 0 ∨ cl11.slots.size ≤ ((1 : Int32)).toNatClampNeg) := inb_of S11 ⟨by decide, by decide⟩
  have hat11 : cl11.slots[((1 : Int32)).toNatClampNeg]? = some (.int c1) := Has.at H11 hin11 rfl
  have os13 := (own_st_keep os7 K6 (nsS Vb1.nostat ns0))
  obtain ⟨_, _, ⟨T12, L12, k12, n12⟩, -, X12, ⟨Lc12, hQ12, l12, y12, z12⟩, st12⟩ := Jvm.LawKit.callS X6 hx (y := yn25) hown (mvT hZ (ow hw 110 rfl)) (mvT hZ (ow hw 111 rfl)) (mvT hZ (ow hw 39 rfl)) (mvT hZ (ow hw 112 rfl)) (by decide) (backOf (W := 0) (rm_pc l Z a0 hw [] ob (1 : Int32) c1 vcs vf kb (6 : Int32) [(.int lo0), (.int hi0), (.int 0), (.int 0), (.int 0), (.int 0)] 1 T6.heap n0 Zs8 os13 Vb6 gb (by decide) (by decide) (by decide) (Nat.le_of_ble_eq_true rfl) uc1 vc1) hZ (ow hw 112 rfl) (ow hw 39 rfl) (by decide) (by decide)) (g := (mkF m 20 #[.val (.ref oc), .val (.int 1), .val (.int 3), .val (.ref ob), .val (.int 1)] [(.int c1), (.int 1), (.ref ob)])) rfl (by rw [hml]; rfl) (argsL := [(.ref ob), (.int 1), (.int c1)]) (rest := []) (lenOf pd_15 rfl) rfl (by exact Nat.le_of_eq rfl) (hb hby d22_20) (fun _ _ => ⟨rfl, rfl, (by decide : 1 + 0 ≤ _), (by decide : 6 + 0 ≤ _)⟩)
  dsimp only [Pt.U, Pt.locs, Pt.cells, Pt.slots] at X12 l12 y12 z12 st12 hQ12
  rw [l12, y12, z12] at X12
  obtain ⟨lo1, hi1, rfl, N12q, K12, Vb12, ql1, qh1⟩ := hQ12
  have N12 := Fr.app N6 N12q
  have Zs14 : n0 ≤ T12.heap.size := Nat.le_trans Zs8 K12.1
  have Vb12 : Arv Z T12.heap ob kb .byte (6 : Int32) [(.int lo0), (.int hi0), (.int lo1), (.int hi1), (.int 0), (.int 0)] (.int 0) := Vb12
  have hc11_15 : (2 : Int) < (3 : Int) := by decide
  have f16 := (f10.keep K12 (ninS ne_oc_ob nin0))
  obtain ⟨cl17, Ar17, q17, S17, M17, H17, G17⟩ := id f16
  have hin17 : ¬ ((2 : Int32) < 0 ∨ cl17.slots.size ≤ ((2 : Int32)).toNatClampNeg) := inb_of S17 ⟨by decide, by decide⟩
  have hat17 : cl17.slots[((2 : Int32)).toNatClampNeg]? = some (.int c2) := Has.at H17 hin17 rfl
  have os19 := (own_st_keep os13 K12 (nsS Vb6.nostat ns0))
  obtain ⟨_, _, ⟨T18, L18, k18, n18⟩, -, X18, ⟨Lc18, hQ18, l18, y18, z18⟩, st18⟩ := Jvm.LawKit.callS X12 hx (y := yn25) hown (mvT hZ (ow hw 110 rfl)) (mvT hZ (ow hw 111 rfl)) (mvT hZ (ow hw 39 rfl)) (mvT hZ (ow hw 112 rfl)) (by decide) (backOf (W := 0) (rm_pc l Z a0 hw [] ob (2 : Int32) c2 vcs vf kb (6 : Int32) [(.int lo0), (.int hi0), (.int lo1), (.int hi1), (.int 0), (.int 0)] 2 T12.heap n0 Zs14 os19 Vb12 gb (by decide) (by decide) (by decide) (Nat.le_of_ble_eq_true rfl) uc2 vc2) hZ (ow hw 112 rfl) (ow hw 39 rfl) (by decide) (by decide)) (g := (mkF m 20 #[.val (.ref oc), .val (.int 2), .val (.int 3), .val (.ref ob), .val (.int 2)] [(.int c2), (.int 2), (.ref ob)])) rfl (by rw [hml]; rfl) (argsL := [(.ref ob), (.int 2), (.int c2)]) (rest := []) (lenOf pd_15 rfl) rfl (by exact Nat.le_of_eq rfl) (hb hby d22_20) (fun _ _ => ⟨rfl, rfl, (by decide : 1 + 0 ≤ _), (by decide : 6 + 0 ≤ _)⟩)
  dsimp only [Pt.U, Pt.locs, Pt.cells, Pt.slots] at X18 l18 y18 z18 st18 hQ18
  rw [l18, y18, z18] at X18
  obtain ⟨lo2, hi2, rfl, N18q, K18, Vb18, ql2, qh2⟩ := hQ18
  have N18 := Fr.app N12 N18q
  have Zs20 : n0 ≤ T18.heap.size := Nat.le_trans Zs14 K18.1
  have Vb18 : Arv Z T18.heap ob kb .byte (6 : Int32) [(.int lo0), (.int hi0), (.int lo1), (.int hi1), (.int lo2), (.int hi2)] (.int 0) := Vb18
  have hc11_21 : ¬ ((3 : Int) < (3 : Int)) := by decide
  subst hSS
  obtain ⟨fs, hr, q1, q2, q3, q4⟩ := X18.leave (v := some (.ref ob)) (fun h => by rw [Bd.returns] at h; cases h)
  refine ⟨_, _, pre0 _ ?_, q1, q2, _, _, rfl, ?_, ⟨_, rfl⟩, q3, q4.mono (by decide) (by decide)⟩
  · refine XS.iloadN X0.here hx rfl (hb hby d22_0) rfl ?_
    refine st1 _ ?_
    refine XS.astoreN X1.here hx rfl (hb hby d22_4) rfl rfl (l' := #[.val (.ref oc), .val (.int 0), .val (.int 3), .val (.ref ob), .unset]) rfl ?_
    refine XS.iconst X1.here hx rfl (hb hby d22_5) ?_
    refine XS.istore X1.here hx rfl (hb hby d22_6) rfl (l' := #[.val (.ref oc), .val (.int 0), .val (.int 3), .val (.ref ob), .val (.int 0)]) rfl ?_
    refine XS.iload X1.here hx rfl (hb hby d22_8) rfl ?_
    refine XS.iloadN X1.here hx rfl (hb hby d22_10) rfl ?_
    refine XS.icmpNo X1.here hx rfl (hb hby d22_11) rfl (own_tlt (a := (0 : Int32)) (b := (3 : Int32)) (by decide) (by decide) hc11_3).2.1 ?_
    refine XS.aloadN X1.here hx rfl (hb hby d22_14) rfl rfl ?_
    refine XS.iload X1.here hx rfl (hb hby d22_15) rfl ?_
    refine XS.aloadN X1.here hx rfl (hb hby d22_17) rfl rfl ?_
    refine XS.iloadN X1.here hx rfl (hb hby d22_18) rfl ?_
    refine X1.caload hx (j := (0 : Int32)) (v := (.int c0)) Ar5.1 (State.isArrayOf_alike hZ.alike Ar5.2.1) Ar5.2.2 hin5 hat5 (g := (mkF m 19 #[.val (.ref oc), .val (.int 0), .val (.int 3), .val (.ref ob), .val (.int 0)] [(.int 0), (.ref oc), (.int 0), (.ref ob)])) rfl rfl (hb hby d22_19) _ ?_
    refine st6 _ ?_
    refine XS.iinc X6.here hx rfl (hb hby d22_23) rfl (l' := #[.val (.ref oc), .val (.int 1), .val (.int 3), .val (.ref ob), .val (.int 0)]) rfl ?_
    refine XS.iinc X6.here hx rfl (hb hby d22_26) rfl (l' := #[.val (.ref oc), .val (.int 1), .val (.int 3), .val (.ref ob), .val (.int 1)]) rfl ?_
    refine XS.goto X6.here hx rfl (pc0 := 29) (pc' := 8) rfl (hb hby d22_29) (by decide) (by decide) ?_
    refine XS.iload X6.here hx rfl (hb hby d22_8) rfl ?_
    refine XS.iloadN X6.here hx rfl (hb hby d22_10) rfl ?_
    show Steps p.tables e below (T6.setTop (mkF m 11 #[.val (.ref oc), .val (.int 1), .val (.int 3), .val (.ref ob), .val (.int 1)] [(.int 3), (.int 1)])) _
    refine XS.icmpNo X6.here hx rfl (hb hby d22_11) rfl (own_tlt (a := (1 : Int32)) (b := (3 : Int32)) (by decide) (by decide) hc11_9).2.1 ?_
    refine XS.aloadN X6.here hx rfl (hb hby d22_14) rfl rfl ?_
    refine XS.iload X6.here hx rfl (hb hby d22_15) rfl ?_
    refine XS.aloadN X6.here hx rfl (hb hby d22_17) rfl rfl ?_
    refine XS.iloadN X6.here hx rfl (hb hby d22_18) rfl ?_
    refine X6.caload hx (j := (1 : Int32)) (v := (.int c1)) Ar11.1 (State.isArrayOf_alike hZ.alike Ar11.2.1) Ar11.2.2 hin11 hat11 (g := (mkF m 19 #[.val (.ref oc), .val (.int 1), .val (.int 3), .val (.ref ob), .val (.int 1)] [(.int 1), (.ref oc), (.int 1), (.ref ob)])) rfl rfl (hb hby d22_19) _ ?_
    refine st12 _ ?_
    refine XS.iinc X12.here hx rfl (hb hby d22_23) rfl (l' := #[.val (.ref oc), .val (.int 2), .val (.int 3), .val (.ref ob), .val (.int 1)]) rfl ?_
    refine XS.iinc X12.here hx rfl (hb hby d22_26) rfl (l' := #[.val (.ref oc), .val (.int 2), .val (.int 3), .val (.ref ob), .val (.int 2)]) rfl ?_
    refine XS.goto X12.here hx rfl (pc0 := 29) (pc' := 8) rfl (hb hby d22_29) (by decide) (by decide) ?_
    refine XS.iload X12.here hx rfl (hb hby d22_8) rfl ?_
    refine XS.iloadN X12.here hx rfl (hb hby d22_10) rfl ?_
    refine XS.icmpNo X12.here hx rfl (hb hby d22_11) rfl (own_tlt (a := (2 : Int32)) (b := (3 : Int32)) (by decide) (by decide) hc11_15).2.1 ?_
    refine XS.aloadN X12.here hx rfl (hb hby d22_14) rfl rfl ?_
    refine XS.iload X12.here hx rfl (hb hby d22_15) rfl ?_
    refine XS.aloadN X12.here hx rfl (hb hby d22_17) rfl rfl ?_
    refine XS.iloadN X12.here hx rfl (hb hby d22_18) rfl ?_
    refine X12.caload hx (j := (2 : Int32)) (v := (.int c2)) Ar17.1 (State.isArrayOf_alike hZ.alike Ar17.2.1) Ar17.2.2 hin17 hat17 (g := (mkF m 19 #[.val (.ref oc), .val (.int 2), .val (.int 3), .val (.ref ob), .val (.int 2)] [(.int 2), (.ref oc), (.int 2), (.ref ob)])) rfl rfl (hb hby d22_19) _ ?_
    refine st18 _ ?_
    refine XS.iinc X18.here hx rfl (hb hby d22_23) rfl (l' := #[.val (.ref oc), .val (.int 3), .val (.int 3), .val (.ref ob), .val (.int 2)]) rfl ?_
    show Steps p.tables e below (T18.setTop (mkF m 26 #[.val (.ref oc), .val (.int 3), .val (.int 3), .val (.ref ob), .val (.int 2)] [])) _
    refine XS.iinc X18.here hx rfl (hb hby d22_26) rfl (l' := #[.val (.ref oc), .val (.int 3), .val (.int 3), .val (.ref ob), .val (.int 3)]) rfl ?_
    refine XS.goto X18.here hx rfl (pc0 := 29) (pc' := 8) rfl (hb hby d22_29) (by decide) (by decide) ?_
    refine XS.iload X18.here hx rfl (hb hby d22_8) rfl ?_
    refine XS.iloadN X18.here hx rfl (hb hby d22_10) rfl ?_
    refine XS.icmpYes X18.here hx rfl (pc0 := 11) (pc' := 32) rfl (hb hby d22_11) rfl (own_flt (a := (3 : Int32)) (b := (3 : Int32)) (by decide) (by decide) hc11_21).2.1 (by decide) (by decide) ?_
    refine XS.aloadN X18.here hx rfl (hb hby d22_32) rfl rfl ?_
    jvm_step X18.here [X18.here.top, hx, (hb hby d22_33), X18.method', Bd.returns, Value.isRef, FieldType.isReference]
    first | (intro acts; rw [hr _ acts rfl rfl rfl]) | rw [hr _ _ rfl rfl rfl]
    exact Steps.refl _
  · show Q_tb3 Z _ _ _ _ _ _ _ h0 n0 _ T18.heap _
    have f22 := (((((Keep.refl h0 []).trans K1 all0).trans K6 (allS (P := fun x => x ∈ [] ∨ h0.size ≤ x) (Or.inr sz_ob) all0)).trans K12 (allS (P := fun x => x ∈ [] ∨ h0.size ≤ x) (Or.inr sz_ob) all0)).trans K18 (allS (P := fun x => x ∈ [] ∨ h0.size ≤ x) (Or.inr sz_ob) all0))
    exact ⟨ob, kb, lo0, hi0, lo1, hi1, lo2, hi2, rfl, N18, f22, gb, sz_ob, Vb18, ql0, qh0, ql1, qh1, ql2, qh2⟩
theorem ef_rm_cq3 (m : MethodId) (x0 : Addr) (x2 : Addr) : entryFrame m #[(.ref x0), (.int 0), (.ref x2), (.int 0), (.int 3)] 7 = mkF m 0 #[.val (.ref x0), .val (.int 0), .val (.ref x2), .val (.int 0), .val (.int 3), .unset, .unset] [] := by first | (simp [entryFrame, mkF, argsToLocals, Value.category]; done) | rfl
def Q_cq3 (Z : State) (oc : Addr) (ob : Addr) (kC : ClassId) (c0 : Int32) (c1 : Int32) (c2 : Int32) (kb : ClassId) (h0 : Heap) (n0 : Nat) (v : Option Value) (h : Heap) (L : List Loc) : Prop := Fr n0 L ∧ Keep h0 h [ob] ∧ ((v = some (.int 3) ∧ (c0.toInt ≤ 255 ∧ c1.toInt ≤ 255 ∧ c2.toInt ≤ 255) ∧ ∃ bb0 bb1 bb2 : Int32, Arv Z h ob kb .byte (3 : Int32) [(.int bb0), (.int bb1), (.int bb2)] (.int 0) ∧ bb0.toInt % 256 = c0.toInt ∧ bb1.toInt % 256 = c1.toInt ∧ bb2.toInt % 256 = c2.toInt) ∨ (v = some (.int 0) ∧ 255 < c0.toInt ∧ ∃ vs, Arv Z h ob kb .byte (3 : Int32) vs (.int 0)) ∨ (v = some (.int 1) ∧ 255 < c1.toInt ∧ ∃ vs, Arv Z h ob kb .byte (3 : Int32) vs (.int 0)) ∨ (v = some (.int 2) ∧ 255 < c2.toInt ∧ ∃ vs, Arv Z h ob kb .byte (3 : Int32) vs (.int 0)))
theorem rm_cq3 (l : Launch) (Z : State) (a0 : Array Value) (hw : ∀ d ∈ tables_1, d.before a0 Z = true) (ws : List Jvm.Cond) (oc : Addr) (ob : Addr) (kC : ClassId) (c0 : Int32) (c1 : Int32) (c2 : Int32) (kb : ClassId) (h0 : Heap) (n0 : Nat) (Z0 : n0 ≤ h0.size) (Vc : Arv Z h0 oc kC .char (3 : Int32) [(.int c0), (.int c1), (.int c2)] (.int 0)) (uc0 : 0 ≤ c0.toInt) (uc1 : 0 ≤ c1.toInt) (uc2 : 0 ≤ c2.toInt) (vc0 : c0.toInt < 65536) (vc1 : c1.toInt < 65536) (vc2 : c2.toInt < 65536) (Vb : Arv Z h0 ob kb .byte (3 : Int32) [(.int 0), (.int 0), (.int 0)] (.int 0)) (gb : n0 ≤ ob) (ncb : oc ≠ ob) :
    MetFree l yn27 (head1 (Jvm.Cond.code yn27 kc27 7 (some .int) :: ws) ⟨0, 0, 0, 0⟩) (fun a U => a = #[(.ref oc), (.int 0), (.ref ob), (.int 0), (.int 3)] ∧ Z.Warmed39 U.vm ∧ U.heap = h0) (fun _ _ _ _ _ => True) (fun _ U o U' => ∃ v L, o = .returned v ∧ Q_cq3 Z oc ob kC c0 c1 c2 kb h0 n0 v U'.heap L ∧ FrameEnd U o U' L 0 0) := by
  refine MetFree.of_bodySF (plainFor_of_name pn_3) hisR ?_
  intro p e s m args below meth c s₁ Bd hml0 hP hK
  obtain ⟨rfl, hZ, hh⟩ := hP
  have hx := Bd.exec
  have hby := Bd.bytes
  have hml : c.maxLocals = 7 := hml0
  have hown : s.vm.findClass "java/lang/StringUTF16" = some m.cls := findClass_of_methodNamed Bd.named
  have hnm := (name_of_methodNamed Bd.named Bd.method).1
  have X0 : Stand p l e ⟨0, 0, 0, 0⟩ s m #[(.ref oc), (.int 0), (.ref ob), (.int 0), (.int 3)] below meth c s₁ [] 0 0 := Stand.of_body Bd
  have e0 : s₁.heap = h0 := by rw [← hh, Bd.state]; rfl
  have N0 := Fr.nil n0
  obtain ⟨SS, hSS⟩ : ∃ S, S = s₁.setTop (entryFrame m #[(.ref oc), (.int 0), (.ref ob), (.int 0), (.int 3)] 7) := ⟨_, rfl⟩
  have pre0 : oP p e below (s₁.setTop (mkF m 0 #[.val (.ref oc), .val (.int 0), .val (.ref ob), .val (.int 0), .val (.int 3), .unset, .unset] [])) (SS) := by
    rw [hSS]; exact fun t k => castTop (ef_rm_cq3 m oc ob) k
  have hc7_1 : (0 : Int) < (3 : Int) := by decide
  obtain ⟨cl2, Ar2, q2, S2, M2, H2, G2⟩ := id Vc
  have hin2 : ¬ ((0 : Int32) < 0 ∨ cl2.slots.size ≤ ((0 : Int32)).toNatClampNeg) := inb_of S2 ⟨by decide, by decide⟩
  have hat2 : cl2.slots[((0 : Int32)).toNatClampNeg]? = some (.int c0) := Has.at H2 hin2 rfl
  have pre4 : oP p e below (s₁.setTop (mkF m 20 #[.val (.ref oc), .val (.int 0), .val (.ref ob), .val (.int 0), .val (.int 3), .val (.int 0), .val (.int c0)] [(.int 255), (.int c0)])) (SS) := fun t kt => by
    refine pre0 _ ?_
    refine XS.iconst X0.here hx rfl (hb hby d8_0) ?_
    refine XS.istore X0.here hx rfl (hb hby d8_1) rfl (l' := #[.val (.ref oc), .val (.int 0), .val (.ref ob), .val (.int 0), .val (.int 3), .val (.int 0), .unset]) rfl ?_
    refine XS.iload X0.here hx rfl (hb hby d8_3) rfl ?_
    refine XS.iload X0.here hx rfl (hb hby d8_5) rfl ?_
    refine XS.icmpNo X0.here hx rfl (hb hby d8_7) rfl (own_tlt (a := (0 : Int32)) (b := (3 : Int32)) (by decide) (by decide) hc7_1).2.1 ?_
    refine XS.aloadN X0.here hx rfl (hb hby d8_10) rfl rfl ?_
    refine XS.iloadN X0.here hx rfl (hb hby d8_11) rfl ?_
    refine X0.caload hx (j := (0 : Int32)) (v := (.int c0)) (by rw [e0]; exact Ar2.1) (State.isArrayOf_alike hZ.alike Ar2.2.1) Ar2.2.2 hin2 hat2 (g := (mkF m 12 #[.val (.ref oc), .val (.int 0), .val (.ref ob), .val (.int 0), .val (.int 3), .val (.int 0), .unset] [(.int 0), (.ref oc)])) rfl rfl (hb hby d8_12) _ ?_
    refine XS.istore X0.here hx rfl (hb hby d8_13) rfl (l' := #[.val (.ref oc), .val (.int 0), .val (.ref ob), .val (.int 0), .val (.int 3), .val (.int 0), .val (.int c0)]) rfl ?_
    refine XS.iload X0.here hx rfl (hb hby d8_15) rfl ?_
    refine XS.sipush X0.here hx rfl (hb hby d8_17) ?_
    exact kt
  by_cases hc20_3 : (255 : Int) < c0.toInt
  · subst hSS
    obtain ⟨fs, hr, q1, q2, q3, q4⟩ := X0.leave (v := some (.int 0)) (fun h => by rw [Bd.returns] at h; cases h)
    refine ⟨_, _, pre4 _ ?_, q1, q2, _, _, rfl, ?_, ⟨_, rfl⟩, q3, q4.mono (by decide) (by decide)⟩
    · refine XS.icmpNo X0.here hx rfl (hb hby d8_20) rfl (own_tlt (a := (255 : Int32)) (b := c0) (by decide) rfl hc20_3).2.2.2 ?_
      refine XS.iload X0.here hx rfl (hb hby d8_23) rfl ?_
      exact retI X0 hx Bd.returns (hb hby d8_25) hr
    · show Q_cq3 Z _ _ _ _ _ _ _ h0 n0 _ s₁.heap _
      rw [e0]
      exact ⟨N0, (Keep.refl h0 [ob]), Or.inr (Or.inl ⟨rfl, by omega, _, Vb⟩)⟩
  · obtain ⟨cl5, Ar5, q5, S5, M5, H5, G5⟩ := id Vb
    have hin5 : ¬ ((0 : Int32) < 0 ∨ cl5.slots.size ≤ ((0 : Int32)).toNatClampNeg) := inb_of S5 ⟨by decide, by decide⟩
    obtain ⟨T6, h6, X6, e6, W6, st6⟩ := stB X0 hx hZ e0 Ar5 (j := (0 : Int32)) hin5 (g := (mkF m 31 #[.val (.ref oc), .val (.int 0), .val (.ref ob), .val (.int 0), .val (.int 3), .val (.int 0), .val (.int c0)] [(.int (c0.toInt8.toInt32)), (.int 0), (.ref ob)])) rfl rfl (hb hby d8_31)
    have N6 := Fr.snoc X6 N0 gb
    have Zs7 : n0 ≤ h6.size := by rw [W6.size]; exact Z0
    have V6 : Arv Z h6 ob kb .byte (3 : Int32) [(.int (nar .byte (c0.toInt8.toInt32))), (.int 0), (.int 0)] (.int 0) := Arv.set Ar5 q5 S5 M5 H5 G5 (fits_nar_byte _) W6 0 rfl (Nat.le_of_ble_eq_true rfl)
    have hc7_8 : (1 : Int) < (3 : Int) := by decide
    have f9 := (Vc.other W6 ncb)
    obtain ⟨cl10, Ar10, q10, S10, M10, H10, G10⟩ := id f9
    have hin10 : ¬ ((1 : Int32) < 0 ∨ cl10.slots.size ≤ ((1 : Int32)).toNatClampNeg) := inb_of S10 ⟨by decide, by decide⟩
    have hat10 : cl10.slots[((1 : Int32)).toNatClampNeg]? = some (.int c1) := Has.at H10 hin10 rfl
    have pre12 : oP p e below (T6.setTop (mkF m 20 #[.val (.ref oc), .val (.int 1), .val (.ref ob), .val (.int 1), .val (.int 3), .val (.int 1), .val (.int c1)] [(.int 255), (.int c1)])) (SS) := fun t kt => by
      refine pre4 _ ?_
      refine XS.icmpYes X0.here hx rfl (pc0 := 20) (pc' := 26) rfl (hb hby d8_20) rfl (own_flt (a := (255 : Int32)) (b := c0) (by decide) rfl hc20_3).2.2.2 (by decide) (by decide) ?_
      refine XS.aloadN X0.here hx rfl (hb hby d8_26) rfl rfl ?_
      refine XS.iloadN X0.here hx rfl (hb hby d8_27) rfl ?_
      refine XS.iload X0.here hx rfl (hb hby d8_28) rfl ?_
      refine XS.i2b X0.here hx rfl (hb hby d8_30) rfl ?_
      refine st6 _ ?_
      refine XS.iinc X6.here hx rfl (hb hby d8_32) rfl (l' := #[.val (.ref oc), .val (.int 1), .val (.ref ob), .val (.int 0), .val (.int 3), .val (.int 0), .val (.int c0)]) rfl ?_
      refine XS.iinc X6.here hx rfl (hb hby d8_35) rfl (l' := #[.val (.ref oc), .val (.int 1), .val (.ref ob), .val (.int 1), .val (.int 3), .val (.int 0), .val (.int c0)]) rfl ?_
      show Steps p.tables e below (T6.setTop (mkF m 38 #[.val (.ref oc), .val (.int 1), .val (.ref ob), .val (.int 1), .val (.int 3), .val (.int 0), .val (.int c0)] [])) _
      refine XS.iinc X6.here hx rfl (hb hby d8_38) rfl (l' := #[.val (.ref oc), .val (.int 1), .val (.ref ob), .val (.int 1), .val (.int 3), .val (.int 1), .val (.int c0)]) rfl ?_
      refine XS.goto X6.here hx rfl (pc0 := 41) (pc' := 3) rfl (hb hby d8_41) (by decide) (by decide) ?_
      refine XS.iload X6.here hx rfl (hb hby d8_3) rfl ?_
      refine XS.iload X6.here hx rfl (hb hby d8_5) rfl ?_
      refine XS.icmpNo X6.here hx rfl (hb hby d8_7) rfl (own_tlt (a := (1 : Int32)) (b := (3 : Int32)) (by decide) (by decide) hc7_8).2.1 ?_
      refine XS.aloadN X6.here hx rfl (hb hby d8_10) rfl rfl ?_
      refine XS.iloadN X6.here hx rfl (hb hby d8_11) rfl ?_
      refine X6.caload hx (j := (1 : Int32)) (v := (.int c1)) (by rw [e6]; exact Ar10.1) (State.isArrayOf_alike hZ.alike Ar10.2.1) Ar10.2.2 hin10 hat10 (g := (mkF m 12 #[.val (.ref oc), .val (.int 1), .val (.ref ob), .val (.int 1), .val (.int 3), .val (.int 1), .val (.int c0)] [(.int 1), (.ref oc)])) rfl rfl (hb hby d8_12) _ ?_
      refine XS.istore X6.here hx rfl (hb hby d8_13) rfl (l' := #[.val (.ref oc), .val (.int 1), .val (.ref ob), .val (.int 1), .val (.int 3), .val (.int 1), .val (.int c1)]) rfl ?_
      refine XS.iload X6.here hx rfl (hb hby d8_15) rfl ?_
      refine XS.sipush X6.here hx rfl (hb hby d8_17) ?_
      exact kt
    by_cases hc20_11 : (255 : Int) < c1.toInt
    · subst hSS
      obtain ⟨fs, hr, q1, q2, q3, q4⟩ := X6.leave (v := some (.int 1)) (fun h => by rw [Bd.returns] at h; cases h)
      refine ⟨_, _, pre12 _ ?_, q1, q2, _, _, rfl, ?_, ⟨_, rfl⟩, q3, q4.mono (by decide) (by decide)⟩
      · refine XS.icmpNo X6.here hx rfl (hb hby d8_20) rfl (own_tlt (a := (255 : Int32)) (b := c1) (by decide) rfl hc20_11).2.2.2 ?_
        refine XS.iload X6.here hx rfl (hb hby d8_23) rfl ?_
        exact retI X6 hx Bd.returns (hb hby d8_25) hr
      · show Q_cq3 Z _ _ _ _ _ _ _ h0 n0 _ T6.heap _
        rw [e6]
        have f13 := ((Keep.refl h0 [ob]).wr W6 (Or.inl (List.mem_of_getElem? (i := 0) rfl)))
        exact ⟨N6, f13, Or.inr (Or.inr (Or.inl ⟨rfl, by omega, _, V6⟩))⟩
    · obtain ⟨cl14, Ar14, q14, S14, M14, H14, G14⟩ := id V6
      have hin14 : ¬ ((1 : Int32) < 0 ∨ cl14.slots.size ≤ ((1 : Int32)).toNatClampNeg) := inb_of S14 ⟨by decide, by decide⟩
      obtain ⟨T15, h15, X15, e15, W15, st15⟩ := stB X6 hx hZ e6 Ar14 (j := (1 : Int32)) hin14 (g := (mkF m 31 #[.val (.ref oc), .val (.int 1), .val (.ref ob), .val (.int 1), .val (.int 3), .val (.int 1), .val (.int c1)] [(.int (c1.toInt8.toInt32)), (.int 1), (.ref ob)])) rfl rfl (hb hby d8_31)
      have N15 := Fr.snoc X15 N6 gb
      have Zs16 : n0 ≤ h15.size := by rw [W15.size]; exact Zs7
      have V15 : Arv Z h15 ob kb .byte (3 : Int32) [(.int (nar .byte (c0.toInt8.toInt32))), (.int (nar .byte (c1.toInt8.toInt32))), (.int 0)] (.int 0) := Arv.set Ar14 q14 S14 M14 H14 G14 (fits_nar_byte _) W15 1 rfl (Nat.le_of_ble_eq_true rfl)
      have hc7_17 : (2 : Int) < (3 : Int) := by decide
      have f18 := (f9.other W15 ncb)
      obtain ⟨cl19, Ar19, q19, S19, M19, H19, G19⟩ := id f18
      have hin19 : ¬ ((2 : Int32) < 0 ∨ cl19.slots.size ≤ ((2 : Int32)).toNatClampNeg) := inb_of S19 ⟨by decide, by decide⟩
      have hat19 : cl19.slots[((2 : Int32)).toNatClampNeg]? = some (.int c2) := Has.at H19 hin19 rfl
      have pre21 : oP p e below (T15.setTop (mkF m 20 #[.val (.ref oc), .val (.int 2), .val (.ref ob), .val (.int 2), .val (.int 3), .val (.int 2), .val (.int c2)] [(.int 255), (.int c2)])) (SS) := fun t kt => by
        refine pre12 _ ?_
        refine XS.icmpYes X6.here hx rfl (pc0 := 20) (pc' := 26) rfl (hb hby d8_20) rfl (own_flt (a := (255 : Int32)) (b := c1) (by decide) rfl hc20_11).2.2.2 (by decide) (by decide) ?_
        refine XS.aloadN X6.here hx rfl (hb hby d8_26) rfl rfl ?_
        refine XS.iloadN X6.here hx rfl (hb hby d8_27) rfl ?_
        refine XS.iload X6.here hx rfl (hb hby d8_28) rfl ?_
        refine XS.i2b X6.here hx rfl (hb hby d8_30) rfl ?_
        refine st15 _ ?_
        refine XS.iinc X15.here hx rfl (hb hby d8_32) rfl (l' := #[.val (.ref oc), .val (.int 2), .val (.ref ob), .val (.int 1), .val (.int 3), .val (.int 1), .val (.int c1)]) rfl ?_
        refine XS.iinc X15.here hx rfl (hb hby d8_35) rfl (l' := #[.val (.ref oc), .val (.int 2), .val (.ref ob), .val (.int 2), .val (.int 3), .val (.int 1), .val (.int c1)]) rfl ?_
        refine XS.iinc X15.here hx rfl (hb hby d8_38) rfl (l' := #[.val (.ref oc), .val (.int 2), .val (.ref ob), .val (.int 2), .val (.int 3), .val (.int 2), .val (.int c1)]) rfl ?_
        show Steps p.tables e below (T15.setTop (mkF m 41 #[.val (.ref oc), .val (.int 2), .val (.ref ob), .val (.int 2), .val (.int 3), .val (.int 2), .val (.int c1)] [])) _
        refine XS.goto X15.here hx rfl (pc0 := 41) (pc' := 3) rfl (hb hby d8_41) (by decide) (by decide) ?_
        refine XS.iload X15.here hx rfl (hb hby d8_3) rfl ?_
        refine XS.iload X15.here hx rfl (hb hby d8_5) rfl ?_
        refine XS.icmpNo X15.here hx rfl (hb hby d8_7) rfl (own_tlt (a := (2 : Int32)) (b := (3 : Int32)) (by decide) (by decide) hc7_17).2.1 ?_
        refine XS.aloadN X15.here hx rfl (hb hby d8_10) rfl rfl ?_
        refine XS.iloadN X15.here hx rfl (hb hby d8_11) rfl ?_
        refine X15.caload hx (j := (2 : Int32)) (v := (.int c2)) (by rw [e15]; exact Ar19.1) (State.isArrayOf_alike hZ.alike Ar19.2.1) Ar19.2.2 hin19 hat19 (g := (mkF m 12 #[.val (.ref oc), .val (.int 2), .val (.ref ob), .val (.int 2), .val (.int 3), .val (.int 2), .val (.int c1)] [(.int 2), (.ref oc)])) rfl rfl (hb hby d8_12) _ ?_
        refine XS.istore X15.here hx rfl (hb hby d8_13) rfl (l' := #[.val (.ref oc), .val (.int 2), .val (.ref ob), .val (.int 2), .val (.int 3), .val (.int 2), .val (.int c2)]) rfl ?_
        refine XS.iload X15.here hx rfl (hb hby d8_15) rfl ?_
        refine XS.sipush X15.here hx rfl (hb hby d8_17) ?_
        exact kt
      by_cases hc20_20 : (255 : Int) < c2.toInt
      · subst hSS
        obtain ⟨fs, hr, q1, q2, q3, q4⟩ := X15.leave (v := some (.int 2)) (fun h => by rw [Bd.returns] at h; cases h)
        refine ⟨_, _, pre21 _ ?_, q1, q2, _, _, rfl, ?_, ⟨_, rfl⟩, q3, q4.mono (by decide) (by decide)⟩
        · refine XS.icmpNo X15.here hx rfl (hb hby d8_20) rfl (own_tlt (a := (255 : Int32)) (b := c2) (by decide) rfl hc20_20).2.2.2 ?_
          refine XS.iload X15.here hx rfl (hb hby d8_23) rfl ?_
          exact retI X15 hx Bd.returns (hb hby d8_25) hr
        · show Q_cq3 Z _ _ _ _ _ _ _ h0 n0 _ T15.heap _
          rw [e15]
          have f22 := (((Keep.refl h0 [ob]).wr W6 (Or.inl (List.mem_of_getElem? (i := 0) rfl))).wr W15 (Or.inl (List.mem_of_getElem? (i := 0) rfl)))
          exact ⟨N15, f22, Or.inr (Or.inr (Or.inr (⟨rfl, by omega, _, V15⟩)))⟩
      · obtain ⟨cl23, Ar23, q23, S23, M23, H23, G23⟩ := id V15
        have hin23 : ¬ ((2 : Int32) < 0 ∨ cl23.slots.size ≤ ((2 : Int32)).toNatClampNeg) := inb_of S23 ⟨by decide, by decide⟩
        obtain ⟨T24, h24, X24, e24, W24, st24⟩ := stB X15 hx hZ e15 Ar23 (j := (2 : Int32)) hin23 (g := (mkF m 31 #[.val (.ref oc), .val (.int 2), .val (.ref ob), .val (.int 2), .val (.int 3), .val (.int 2), .val (.int c2)] [(.int (c2.toInt8.toInt32)), (.int 2), (.ref ob)])) rfl rfl (hb hby d8_31)
        have N24 := Fr.snoc X24 N15 gb
        have Zs25 : n0 ≤ h24.size := by rw [W24.size]; exact Zs16
        have V24 : Arv Z h24 ob kb .byte (3 : Int32) [(.int (nar .byte (c0.toInt8.toInt32))), (.int (nar .byte (c1.toInt8.toInt32))), (.int (nar .byte (c2.toInt8.toInt32)))] (.int 0) := Arv.set Ar23 q23 S23 M23 H23 G23 (fits_nar_byte _) W24 2 rfl (Nat.le_of_ble_eq_true rfl)
        have hc7_26 : ¬ ((3 : Int) < (3 : Int)) := by decide
        subst hSS
        obtain ⟨fs, hr, q1, q2, q3, q4⟩ := X24.leave (v := some (.int 3)) (fun h => by rw [Bd.returns] at h; cases h)
        refine ⟨_, _, pre21 _ ?_, q1, q2, _, _, rfl, ?_, ⟨_, rfl⟩, q3, q4.mono (by decide) (by decide)⟩
        · refine XS.icmpYes X15.here hx rfl (pc0 := 20) (pc' := 26) rfl (hb hby d8_20) rfl (own_flt (a := (255 : Int32)) (b := c2) (by decide) rfl hc20_20).2.2.2 (by decide) (by decide) ?_
          refine XS.aloadN X15.here hx rfl (hb hby d8_26) rfl rfl ?_
          refine XS.iloadN X15.here hx rfl (hb hby d8_27) rfl ?_
          refine XS.iload X15.here hx rfl (hb hby d8_28) rfl ?_
          refine XS.i2b X15.here hx rfl (hb hby d8_30) rfl ?_
          refine st24 _ ?_
          refine XS.iinc X24.here hx rfl (hb hby d8_32) rfl (l' := #[.val (.ref oc), .val (.int 3), .val (.ref ob), .val (.int 2), .val (.int 3), .val (.int 2), .val (.int c2)]) rfl ?_
          refine XS.iinc X24.here hx rfl (hb hby d8_35) rfl (l' := #[.val (.ref oc), .val (.int 3), .val (.ref ob), .val (.int 3), .val (.int 3), .val (.int 2), .val (.int c2)]) rfl ?_
          refine XS.iinc X24.here hx rfl (hb hby d8_38) rfl (l' := #[.val (.ref oc), .val (.int 3), .val (.ref ob), .val (.int 3), .val (.int 3), .val (.int 3), .val (.int c2)]) rfl ?_
          refine XS.goto X24.here hx rfl (pc0 := 41) (pc' := 3) rfl (hb hby d8_41) (by decide) (by decide) ?_
          show Steps p.tables e below (T24.setTop (mkF m 3 #[.val (.ref oc), .val (.int 3), .val (.ref ob), .val (.int 3), .val (.int 3), .val (.int 3), .val (.int c2)] [])) _
          refine XS.iload X24.here hx rfl (hb hby d8_3) rfl ?_
          refine XS.iload X24.here hx rfl (hb hby d8_5) rfl ?_
          refine XS.icmpYes X24.here hx rfl (pc0 := 7) (pc' := 44) rfl (hb hby d8_7) rfl (own_flt (a := (3 : Int32)) (b := (3 : Int32)) (by decide) (by decide) hc7_26).2.1 (by decide) (by decide) ?_
          refine XS.iload X24.here hx rfl (hb hby d8_44) rfl ?_
          exact retI X24 hx Bd.returns (hb hby d8_46) hr
        · show Q_cq3 Z _ _ _ _ _ _ _ h0 n0 _ T24.heap _
          rw [e24]
          have f27 := ((((Keep.refl h0 [ob]).wr W6 (Or.inl (List.mem_of_getElem? (i := 0) rfl))).wr W15 (Or.inl (List.mem_of_getElem? (i := 0) rfl))).wr W24 (Or.inl (List.mem_of_getElem? (i := 0) rfl)))
          exact ⟨N24, f27, Or.inl ⟨rfl, ⟨by omega, by omega, by omega⟩, _, _, _, V24, own_b2 c0 uc0 (by omega), own_b2 c1 uc1 (by omega), own_b2 c2 uc2 (by omega)⟩⟩
theorem ef_rm_cr3 (m : MethodId) (x0 : Addr) : entryFrame m #[(.ref x0), (.int 0), (.int 3)] 6 = mkF m 0 #[.val (.ref x0), .val (.int 0), .val (.int 3), .unset, .unset, .unset] [] := by first | (simp [entryFrame, mkF, argsToLocals, Value.category]; done) | rfl
def Q_cr3 (Z : State) (oc : Addr) (vcs : Int32) (vf : Value) (kC : ClassId) (c0 : Int32) (c1 : Int32) (c2 : Int32) (h0 : Heap) (n0 : Nat) (v : Option Value) (h : Heap) (L : List Loc) : Prop := ∃ (ob : Addr) (kb : ClassId), v = some (.ref ob) ∧ Fr n0 L ∧ Keep h0 h [] ∧ n0 ≤ ob ∧ h0.size ≤ ob ∧ (((c0.toInt ≤ 255 ∧ c1.toInt ≤ 255 ∧ c2.toInt ≤ 255) ∧ ∃ bb0 bb1 bb2 : Int32, Arv Z h ob kb .byte (3 : Int32) [(.int bb0), (.int bb1), (.int bb2)] (.int 0) ∧ bb0.toInt % 256 = c0.toInt ∧ bb1.toInt % 256 = c1.toInt ∧ bb2.toInt % 256 = c2.toInt) ∨ (¬ (c0.toInt ≤ 255 ∧ c1.toInt ≤ 255 ∧ c2.toInt ≤ 255) ∧ ∃ lo0 hi0 lo1 hi1 lo2 hi2 : Int32, Arv Z h ob kb .byte (6 : Int32) [(.int lo0), (.int hi0), (.int lo1), (.int hi1), (.int lo2), (.int hi2)] (.int 0) ∧ lo0.toInt % 256 = c0.toInt % 256 ∧ hi0.toInt % 256 = c0.toInt / 256 ∧ lo1.toInt % 256 = c1.toInt % 256 ∧ hi1.toInt % 256 = c1.toInt / 256 ∧ lo2.toInt % 256 = c2.toInt % 256 ∧ hi2.toInt % 256 = c2.toInt / 256))
theorem rm_cr3 (l : Launch) (Z : State) (a0 : Array Value) (hw : ∀ d ∈ tables_1, d.before a0 Z = true) (ws : List Jvm.Cond) (oc : Addr) (vcs : Int32) (vf : Value) (kC : ClassId) (c0 : Int32) (c1 : Int32) (c2 : Int32) (h0 : Heap) (n0 : Nat) (Z0 : n0 ≤ h0.size) (Os : own_st Z h0 vcs vf) (Vc : Arv Z h0 oc kC .char (3 : Int32) [(.int c0), (.int c1), (.int c2)] (.int 0)) (uc0 : 0 ≤ c0.toInt) (uc1 : 0 ≤ c1.toInt) (uc2 : 0 ≤ c2.toInt) (vc0 : c0.toInt < 65536) (vc1 : c1.toInt < 65536) (vc2 : c2.toInt < 65536) :
    MetFree l yn28 (head1 (Jvm.Cond.code yn28 kc28 6 (some (.array .byte)) :: ws) ⟨3, 2, 9, 40⟩) (fun a U => a = #[(.ref oc), (.int 0), (.int 3)] ∧ Z.Warmed39 U.vm ∧ U.heap = h0) (fun _ _ _ _ _ => True) (fun _ U o U' => ∃ v L, o = .returned v ∧ Q_cr3 Z oc vcs vf kC c0 c1 c2 h0 n0 v U'.heap L ∧ FrameEnd U o U' L 2 9) := by
  refine MetFree.of_bodySF (plainFor_of_name pn_3) hisR ?_
  intro p e s m args below meth c s₁ Bd hml0 hP hK
  obtain ⟨rfl, hZ, hh⟩ := hP
  have hx := Bd.exec
  have hby := Bd.bytes
  have hml : c.maxLocals = 6 := hml0
  have hown : s.vm.findClass "java/lang/StringUTF16" = some m.cls := findClass_of_methodNamed Bd.named
  have hnm := (name_of_methodNamed Bd.named Bd.method).1
  have X0 : Stand p l e ⟨3, 2, 9, 40⟩ s m #[(.ref oc), (.int 0), (.int 3)] below meth c s₁ [] 0 0 := Stand.of_body Bd
  have e0 : s₁.heap = h0 := by rw [← hh, Bd.state]; rfl
  have N0 := Fr.nil n0
  obtain ⟨SS, hSS⟩ : ∃ S, S = s₁.setTop (entryFrame m #[(.ref oc), (.int 0), (.int 3)] 6) := ⟨_, rfl⟩
  have pre0 : oP p e below (s₁.setTop (mkF m 0 #[.val (.ref oc), .val (.int 0), .val (.int 3), .unset, .unset, .unset] [])) (SS) := by
    rw [hSS]; exact fun t k => castTop (ef_rm_cr3 m oc) k
  obtain ⟨T1, h1, k1, X1, e1, E1, A1, st1⟩ := newP X0 hx hZ (ow hw 20 rfl) e0 (g := (mkF m 1 #[.val (.ref oc), .val (.int 0), .val (.int 3), .unset, .unset, .unset] [(.int 3)])) rfl (hb hby d7_1) rfl (by decide) (cap := 3) (by decide) (by decide) (by decide) (by decide)
  obtain ⟨b1, g1⟩ : ∃ z, z = h0.size := ⟨_, rfl⟩
  have ne_oc_b1 : oc ≠ b1 := Nat.ne_of_lt (Nat.lt_of_lt_of_le Vc.lt (Nat.le_of_eq g1.symm))
  have g_b1 : n0 ≤ b1 := Nat.le_trans Z0 (Nat.le_of_eq g1.symm)
  have sz_b1 : h0.size ≤ b1 := Nat.le_trans (Keep.refl h0 []).1 (Nat.le_of_eq g1.symm)
  rw [← g1] at A1 st1
  have Zs2 : n0 ≤ h1.size := Nat.le_trans Z0 E1.1
  have V1 : Arv Z h1 b1 k1 .byte (3 : Int32) [(.int 0), (.int 0), (.int 0)] (.int 0) := (Arv.new A1 (by decide)).pad (pad_rep [] (.int 0) 3)
  have f4 := (Vc.ext E1)
  obtain ⟨_, _, ⟨T3, L3, k3, n3⟩, -, X3, ⟨Lc3, hQ3, l3, y3, z3⟩, st3⟩ := Jvm.LawKit.callS X1 hx (y := yn27) hown (mvT hZ (ow hw 41 rfl)) (mvT hZ (ow hw 42 rfl)) (mvT hZ (ow hw 39 rfl)) (mvT hZ (ow hw 43 rfl)) (by decide) (backOf (W := 0) (rm_cq3 l Z a0 hw [] oc b1 kC c0 c1 c2 k1 h1 n0 Zs2 f4 uc0 uc1 uc2 vc0 vc1 vc2 V1 g_b1 ne_oc_b1) hZ (ow hw 43 rfl) (ow hw 39 rfl) (by decide) (by decide)) (g := (mkF m 9 #[.val (.ref oc), .val (.int 0), .val (.int 3), .val (.ref b1), .unset, .unset] [(.int 3), (.int 0), (.ref b1), (.int 0), (.ref oc)])) rfl (by rw [hml]; rfl) (argsL := [(.ref oc), (.int 0), (.ref b1), (.int 0), (.int 3)]) (rest := []) (lenOf pd_16 rfl) rfl (by exact Nat.le_of_eq rfl) (hb hby d7_9) (fun _ _ => ⟨rfl, e1, (by decide : 1 + 0 ≤ _), (by decide : 3 + 0 ≤ _)⟩)
  dsimp only [Pt.U, Pt.locs, Pt.cells, Pt.slots] at X3 l3 y3 z3 st3 hQ3
  rw [l3, y3, z3] at X3
  obtain ⟨N3q, K3, hO3⟩ := hQ3
  have N3 := Fr.app N0 N3q
  have Zs5 : n0 ≤ T3.heap.size := Nat.le_trans Zs2 K3.1
  rcases hO3 with ⟨rfl, hall, bb0, bb1, bb2, VbL, qbb0, qbb1, qbb2⟩ | ⟨rfl, hbig, vsP, VbP⟩ | ⟨rfl, hbig, vsP, VbP⟩ | ⟨rfl, hbig, vsP, VbP⟩
  · have own_mk3 := True.intro
    have hc17_6 : (3 : Int) = (3 : Int) := by decide
    subst hSS
    obtain ⟨fs, hr, q1, q2, q3, q4⟩ := X3.leave (v := some (.ref b1)) (fun h => by rw [Bd.returns] at h; cases h)
    refine ⟨_, _, pre0 _ ?_, q1, q2, _, _, rfl, ?_, ⟨_, rfl⟩, q3, q4.mono (by decide) (by decide)⟩
    · refine XS.iloadN X0.here hx rfl (hb hby d7_0) rfl ?_
      refine st1 _ ?_
      refine XS.astoreN X1.here hx rfl (hb hby d7_3) rfl rfl (l' := #[.val (.ref oc), .val (.int 0), .val (.int 3), .val (.ref b1), .unset, .unset]) rfl ?_
      refine XS.aloadN X1.here hx rfl (hb hby d7_4) rfl rfl ?_
      refine XS.iloadN X1.here hx rfl (hb hby d7_5) rfl ?_
      refine XS.aloadN X1.here hx rfl (hb hby d7_6) rfl rfl ?_
      refine XS.iconst X1.here hx rfl (hb hby d7_7) ?_
      refine XS.iloadN X1.here hx rfl (hb hby d7_8) rfl ?_
      refine st3 _ ?_
      refine XS.istore X3.here hx rfl (hb hby d7_12) rfl (l' := #[.val (.ref oc), .val (.int 0), .val (.int 3), .val (.ref b1), .val (.int 3), .unset]) rfl ?_
      refine XS.iload X3.here hx rfl (hb hby d7_14) rfl ?_
      refine XS.iloadN X3.here hx rfl (hb hby d7_16) rfl ?_
      refine XS.icmpYes X3.here hx rfl (pc0 := 17) (pc' := 57) rfl (hb hby d7_17) rfl (own_teq (a := (3 : Int32)) (b := (3 : Int32)) (by decide) (by decide) hc17_6).1 (by decide) (by decide) ?_
      refine XS.aloadN X3.here hx rfl (hb hby d7_57) rfl rfl ?_
      jvm_step X3.here [X3.here.top, hx, (hb hby d7_58), X3.method', Bd.returns, Value.isRef, FieldType.isReference]
      first | (intro acts; rw [hr _ acts rfl rfl rfl]) | rw [hr _ _ rfl rfl rfl]
      exact Steps.refl _
    · show Q_cr3 Z _ _ _ _ _ _ _ h0 n0 _ T3.heap _
      have f7 := (((Keep.refl h0 []).ext E1).trans K3 (allS (P := fun x => x ∈ [] ∨ h0.size ≤ x) (Or.inr sz_b1) all0))
      exact ⟨b1, _, rfl, N3, f7, g_b1, sz_b1, Or.inl ⟨hall, bb0, bb1, bb2, VbL, qbb0, qbb1, qbb2⟩⟩
  · have own_mk0 := True.intro
    have hc17_8 : ¬ ((0 : Int) = (3 : Int)) := by decide
    have f10 := (f4.keep K3 (ninS ne_oc_b1 nin0))
    have f11 := (((Keep.refl h0 []).ext E1).trans K3 (allS (P := fun x => x ∈ [] ∨ h0.size ≤ x) (Or.inr sz_b1) all0))
    have os12 := (own_st_keep (own_st_ext Os E1) K3 (nsS V1.nostat ns0))
    obtain ⟨_, _, ⟨T9, L9, k9, n9⟩, -, X9, ⟨Lc9, hQ9, l9, y9, z9⟩, st9⟩ := Jvm.LawKit.callS X3 hx (y := yn26) hown (mvT hZ (ow hw 100 rfl)) (mvT hZ (ow hw 101 rfl)) (mvT hZ (ow hw 39 rfl)) (mvT hZ (ow hw 102 rfl)) (by decide) (backOf (W := 0) (rm_tb3 l Z a0 hw [] oc vcs vf kC c0 c1 c2 T3.heap n0 Zs5 os12 f10 uc0 uc1 uc2 vc0 vc1 vc2) hZ (ow hw 102 rfl) (ow hw 39 rfl) (by decide) (by decide)) (g := (mkF m 23 #[.val (.ref oc), .val (.int 0), .val (.int 3), .val (.ref b1), .val (.int 0), .unset] [(.int 3), (.int 0), (.ref oc)])) rfl (by rw [hml]; rfl) (argsL := [(.ref oc), (.int 0), (.int 3)]) (rest := []) (lenOf pd_17 rfl) rfl (by exact Nat.le_of_eq rfl) (hb hby d7_23) (fun _ _ => ⟨rfl, rfl, (by decide : 1 + 1 ≤ _), (by decide : 3 + 6 ≤ _)⟩)
    dsimp only [Pt.U, Pt.locs, Pt.cells, Pt.slots] at X9 l9 y9 z9 st9 hQ9
    rw [l9, y9, z9] at X9
    obtain ⟨ou, ku, lo0, hi0, lo1, hi1, lo2, hi2, rfl, N9q, K9, gu, szu, Vu9, qlo0, qhi0, qlo1, qhi1, qlo2, qhi2⟩ := hQ9
    have N9 := Fr.app N3 N9q
    have Zs13 : n0 ≤ T9.heap.size := Nat.le_trans Zs5 K9.1
    have ne_oc_ou : oc ≠ ou := Nat.ne_of_lt (Nat.lt_of_lt_of_le f10.lt szu)
    have ne_b1_ou : b1 ≠ ou := Nat.ne_of_lt (Nat.lt_of_lt_of_le VbP.lt szu)
    have sz_ou : h0.size ≤ ou := Nat.le_trans f11.1 szu
    have os15 := (own_st_keep os12 K9 ns0)
    obtain ⟨_, _, ⟨T14, L14, k14, n14⟩, -, X14, ⟨Lc14, hQ14, l14, y14, z14⟩, st14⟩ := Jvm.LawKit.callS X9 hx (y := yn7) hown (mvT hZ (ow hw 116 rfl)) (mvT hZ (ow hw 117 rfl)) (mvT hZ (ow hw 39 rfl)) (mvT hZ (ow hw 118 rfl)) (by decide) (backOf (W := 0) (rm_gc l Z a0 hw [] ou (0 : Int32) vcs vf ku (6 : Int32) [(.int lo0), (.int hi0), (.int lo1), (.int hi1), (.int lo2), (.int hi2)] lo0 hi0 0 T9.heap n0 Zs13 os15 Vu9 (by decide) (by decide) (by decide) rfl rfl) hZ (ow hw 118 rfl) (ow hw 39 rfl) (by decide) (by decide)) (g := (mkF m 32 #[.val (.ref oc), .val (.int 0), .val (.int 3), .val (.ref b1), .val (.int 0), .val (.ref ou)] [(.int 0), (.ref ou)])) rfl (by rw [hml]; rfl) (argsL := [(.ref ou), (.int 0)]) (rest := []) (lenOf pd_5 rfl) rfl (by exact Nat.le_of_eq rfl) (hb hby d7_32) (fun _ _ => ⟨rfl, rfl, (by decide : 2 + 0 ≤ _), (by decide : 9 + 0 ≤ _)⟩)
    dsimp only [Pt.U, Pt.locs, Pt.cells, Pt.slots] at X14 l14 y14 z14 st14 hQ14
    rw [l14, y14, z14] at X14
    obtain ⟨zg, rfl, hzg, N14q, e14⟩ := hQ14
    have N14 := Fr.app N9 N14q
    have hc38_16 : (255 : Int) < zg.toInt := by omega
    subst hSS
    obtain ⟨fs, hr, q1, q2, q3, q4⟩ := X14.leave (v := some (.ref ou)) (fun h => by rw [Bd.returns] at h; cases h)
    refine ⟨_, _, pre0 _ ?_, q1, q2, _, _, rfl, ?_, ⟨_, rfl⟩, q3, q4.mono (by decide) (by decide)⟩
    · refine XS.iloadN X0.here hx rfl (hb hby d7_0) rfl ?_
      refine st1 _ ?_
      refine XS.astoreN X1.here hx rfl (hb hby d7_3) rfl rfl (l' := #[.val (.ref oc), .val (.int 0), .val (.int 3), .val (.ref b1), .unset, .unset]) rfl ?_
      refine XS.aloadN X1.here hx rfl (hb hby d7_4) rfl rfl ?_
      refine XS.iloadN X1.here hx rfl (hb hby d7_5) rfl ?_
      refine XS.aloadN X1.here hx rfl (hb hby d7_6) rfl rfl ?_
      refine XS.iconst X1.here hx rfl (hb hby d7_7) ?_
      refine XS.iloadN X1.here hx rfl (hb hby d7_8) rfl ?_
      refine st3 _ ?_
      refine XS.istore X3.here hx rfl (hb hby d7_12) rfl (l' := #[.val (.ref oc), .val (.int 0), .val (.int 3), .val (.ref b1), .val (.int 0), .unset]) rfl ?_
      refine XS.iload X3.here hx rfl (hb hby d7_14) rfl ?_
      refine XS.iloadN X3.here hx rfl (hb hby d7_16) rfl ?_
      refine XS.icmpNo X3.here hx rfl (hb hby d7_17) rfl (own_feq (a := (0 : Int32)) (b := (3 : Int32)) (by decide) (by decide) hc17_8).1 ?_
      refine XS.aloadN X3.here hx rfl (hb hby d7_20) rfl rfl ?_
      refine XS.iloadN X3.here hx rfl (hb hby d7_21) rfl ?_
      refine XS.iloadN X3.here hx rfl (hb hby d7_22) rfl ?_
      refine st9 _ ?_
      refine XS.astore X9.here hx rfl (hb hby d7_26) rfl rfl (l' := #[.val (.ref oc), .val (.int 0), .val (.int 3), .val (.ref b1), .val (.int 0), .val (.ref ou)]) rfl ?_
      refine XS.aload X9.here hx rfl (hb hby d7_28) rfl rfl ?_
      show Steps p.tables e below (T9.setTop (mkF m 30 #[.val (.ref oc), .val (.int 0), .val (.int 3), .val (.ref b1), .val (.int 0), .val (.ref ou)] [(.ref ou)])) _
      refine XS.iload X9.here hx rfl (hb hby d7_30) rfl ?_
      refine st14 _ ?_
      refine XS.sipush X14.here hx rfl (hb hby d7_35) ?_
      refine XS.icmpYes X14.here hx rfl (pc0 := 38) (pc' := 54) rfl (hb hby d7_38) rfl (own_tlt (a := (255 : Int32)) (b := zg) (by decide) rfl hc38_16).2.2.1 (by decide) (by decide) ?_
      refine XS.aload X14.here hx rfl (hb hby d7_54) rfl rfl ?_
      jvm_step X14.here [X14.here.top, hx, (hb hby d7_56), X14.method', Bd.returns, Value.isRef, FieldType.isReference]
      first | (intro acts; rw [hr _ acts rfl rfl rfl]) | rw [hr _ _ rfl rfl rfl]
      exact Steps.refl _
    · show Q_cr3 Z _ _ _ _ _ _ _ h0 n0 _ T14.heap _
      rw [e14]
      have f17 := (f11.trans K9 all0)
      exact ⟨ou, _, rfl, N14, f17, gu, sz_ou, Or.inr ⟨fun q => by omega, lo0, hi0, lo1, hi1, lo2, hi2, Vu9, qlo0, qhi0, qlo1, qhi1, qlo2, qhi2⟩⟩
  · have own_mk1 := True.intro
    have hc17_18 : ¬ ((1 : Int) = (3 : Int)) := by decide
    have f20 := (f4.keep K3 (ninS ne_oc_b1 nin0))
    have f21 := (((Keep.refl h0 []).ext E1).trans K3 (allS (P := fun x => x ∈ [] ∨ h0.size ≤ x) (Or.inr sz_b1) all0))
    have os22 := (own_st_keep (own_st_ext Os E1) K3 (nsS V1.nostat ns0))
    obtain ⟨_, _, ⟨T19, L19, k19, n19⟩, -, X19, ⟨Lc19, hQ19, l19, y19, z19⟩, st19⟩ := Jvm.LawKit.callS X3 hx (y := yn26) hown (mvT hZ (ow hw 100 rfl)) (mvT hZ (ow hw 101 rfl)) (mvT hZ (ow hw 39 rfl)) (mvT hZ (ow hw 102 rfl)) (by decide) (backOf (W := 0) (rm_tb3 l Z a0 hw [] oc vcs vf kC c0 c1 c2 T3.heap n0 Zs5 os22 f20 uc0 uc1 uc2 vc0 vc1 vc2) hZ (ow hw 102 rfl) (ow hw 39 rfl) (by decide) (by decide)) (g := (mkF m 23 #[.val (.ref oc), .val (.int 0), .val (.int 3), .val (.ref b1), .val (.int 1), .unset] [(.int 3), (.int 0), (.ref oc)])) rfl (by rw [hml]; rfl) (argsL := [(.ref oc), (.int 0), (.int 3)]) (rest := []) (lenOf pd_17 rfl) rfl (by exact Nat.le_of_eq rfl) (hb hby d7_23) (fun _ _ => ⟨rfl, rfl, (by decide : 1 + 1 ≤ _), (by decide : 3 + 6 ≤ _)⟩)
    dsimp only [Pt.U, Pt.locs, Pt.cells, Pt.slots] at X19 l19 y19 z19 st19 hQ19
    rw [l19, y19, z19] at X19
    obtain ⟨ou, ku, lo0, hi0, lo1, hi1, lo2, hi2, rfl, N19q, K19, gu, szu, Vu19, qlo0, qhi0, qlo1, qhi1, qlo2, qhi2⟩ := hQ19
    have N19 := Fr.app N3 N19q
    have Zs23 : n0 ≤ T19.heap.size := Nat.le_trans Zs5 K19.1
    have ne_oc_ou : oc ≠ ou := Nat.ne_of_lt (Nat.lt_of_lt_of_le f20.lt szu)
    have ne_b1_ou : b1 ≠ ou := Nat.ne_of_lt (Nat.lt_of_lt_of_le VbP.lt szu)
    have sz_ou : h0.size ≤ ou := Nat.le_trans f21.1 szu
    have os25 := (own_st_keep os22 K19 ns0)
    obtain ⟨_, _, ⟨T24, L24, k24, n24⟩, -, X24, ⟨Lc24, hQ24, l24, y24, z24⟩, st24⟩ := Jvm.LawKit.callS X19 hx (y := yn7) hown (mvT hZ (ow hw 116 rfl)) (mvT hZ (ow hw 117 rfl)) (mvT hZ (ow hw 39 rfl)) (mvT hZ (ow hw 118 rfl)) (by decide) (backOf (W := 0) (rm_gc l Z a0 hw [] ou (1 : Int32) vcs vf ku (6 : Int32) [(.int lo0), (.int hi0), (.int lo1), (.int hi1), (.int lo2), (.int hi2)] lo1 hi1 1 T19.heap n0 Zs23 os25 Vu19 (by decide) (by decide) (by decide) rfl rfl) hZ (ow hw 118 rfl) (ow hw 39 rfl) (by decide) (by decide)) (g := (mkF m 32 #[.val (.ref oc), .val (.int 0), .val (.int 3), .val (.ref b1), .val (.int 1), .val (.ref ou)] [(.int 1), (.ref ou)])) rfl (by rw [hml]; rfl) (argsL := [(.ref ou), (.int 1)]) (rest := []) (lenOf pd_5 rfl) rfl (by exact Nat.le_of_eq rfl) (hb hby d7_32) (fun _ _ => ⟨rfl, rfl, (by decide : 2 + 0 ≤ _), (by decide : 9 + 0 ≤ _)⟩)
    dsimp only [Pt.U, Pt.locs, Pt.cells, Pt.slots] at X24 l24 y24 z24 st24 hQ24
    rw [l24, y24, z24] at X24
    obtain ⟨zg, rfl, hzg, N24q, e24⟩ := hQ24
    have N24 := Fr.app N19 N24q
    have hc38_26 : (255 : Int) < zg.toInt := by omega
    subst hSS
    obtain ⟨fs, hr, q1, q2, q3, q4⟩ := X24.leave (v := some (.ref ou)) (fun h => by rw [Bd.returns] at h; cases h)
    refine ⟨_, _, pre0 _ ?_, q1, q2, _, _, rfl, ?_, ⟨_, rfl⟩, q3, q4.mono (by decide) (by decide)⟩
    · refine XS.iloadN X0.here hx rfl (hb hby d7_0) rfl ?_
      refine st1 _ ?_
      refine XS.astoreN X1.here hx rfl (hb hby d7_3) rfl rfl (l' := #[.val (.ref oc), .val (.int 0), .val (.int 3), .val (.ref b1), .unset, .unset]) rfl ?_
      refine XS.aloadN X1.here hx rfl (hb hby d7_4) rfl rfl ?_
      refine XS.iloadN X1.here hx rfl (hb hby d7_5) rfl ?_
      refine XS.aloadN X1.here hx rfl (hb hby d7_6) rfl rfl ?_
      refine XS.iconst X1.here hx rfl (hb hby d7_7) ?_
      refine XS.iloadN X1.here hx rfl (hb hby d7_8) rfl ?_
      refine st3 _ ?_
      refine XS.istore X3.here hx rfl (hb hby d7_12) rfl (l' := #[.val (.ref oc), .val (.int 0), .val (.int 3), .val (.ref b1), .val (.int 1), .unset]) rfl ?_
      refine XS.iload X3.here hx rfl (hb hby d7_14) rfl ?_
      refine XS.iloadN X3.here hx rfl (hb hby d7_16) rfl ?_
      refine XS.icmpNo X3.here hx rfl (hb hby d7_17) rfl (own_feq (a := (1 : Int32)) (b := (3 : Int32)) (by decide) (by decide) hc17_18).1 ?_
      refine XS.aloadN X3.here hx rfl (hb hby d7_20) rfl rfl ?_
      refine XS.iloadN X3.here hx rfl (hb hby d7_21) rfl ?_
      refine XS.iloadN X3.here hx rfl (hb hby d7_22) rfl ?_
      refine st19 _ ?_
      refine XS.astore X19.here hx rfl (hb hby d7_26) rfl rfl (l' := #[.val (.ref oc), .val (.int 0), .val (.int 3), .val (.ref b1), .val (.int 1), .val (.ref ou)]) rfl ?_
      refine XS.aload X19.here hx rfl (hb hby d7_28) rfl rfl ?_
      show Steps p.tables e below (T19.setTop (mkF m 30 #[.val (.ref oc), .val (.int 0), .val (.int 3), .val (.ref b1), .val (.int 1), .val (.ref ou)] [(.ref ou)])) _
      refine XS.iload X19.here hx rfl (hb hby d7_30) rfl ?_
      refine st24 _ ?_
      refine XS.sipush X24.here hx rfl (hb hby d7_35) ?_
      refine XS.icmpYes X24.here hx rfl (pc0 := 38) (pc' := 54) rfl (hb hby d7_38) rfl (own_tlt (a := (255 : Int32)) (b := zg) (by decide) rfl hc38_26).2.2.1 (by decide) (by decide) ?_
      refine XS.aload X24.here hx rfl (hb hby d7_54) rfl rfl ?_
      jvm_step X24.here [X24.here.top, hx, (hb hby d7_56), X24.method', Bd.returns, Value.isRef, FieldType.isReference]
      first | (intro acts; rw [hr _ acts rfl rfl rfl]) | rw [hr _ _ rfl rfl rfl]
      exact Steps.refl _
    · show Q_cr3 Z _ _ _ _ _ _ _ h0 n0 _ T24.heap _
      rw [e24]
      have f27 := (f21.trans K19 all0)
      exact ⟨ou, _, rfl, N24, f27, gu, sz_ou, Or.inr ⟨fun q => by omega, lo0, hi0, lo1, hi1, lo2, hi2, Vu19, qlo0, qhi0, qlo1, qhi1, qlo2, qhi2⟩⟩
  · have own_mk2 := True.intro
    have hc17_28 : ¬ ((2 : Int) = (3 : Int)) := by decide
    have f30 := (f4.keep K3 (ninS ne_oc_b1 nin0))
    have f31 := (((Keep.refl h0 []).ext E1).trans K3 (allS (P := fun x => x ∈ [] ∨ h0.size ≤ x) (Or.inr sz_b1) all0))
    have os32 := (own_st_keep (own_st_ext Os E1) K3 (nsS V1.nostat ns0))
    obtain ⟨_, _, ⟨T29, L29, k29, n29⟩, -, X29, ⟨Lc29, hQ29, l29, y29, z29⟩, st29⟩ := Jvm.LawKit.callS X3 hx (y := yn26) hown (mvT hZ (ow hw 100 rfl)) (mvT hZ (ow hw 101 rfl)) (mvT hZ (ow hw 39 rfl)) (mvT hZ (ow hw 102 rfl)) (by decide) (backOf (W := 0) (rm_tb3 l Z a0 hw [] oc vcs vf kC c0 c1 c2 T3.heap n0 Zs5 os32 f30 uc0 uc1 uc2 vc0 vc1 vc2) hZ (ow hw 102 rfl) (ow hw 39 rfl) (by decide) (by decide)) (g := (mkF m 23 #[.val (.ref oc), .val (.int 0), .val (.int 3), .val (.ref b1), .val (.int 2), .unset] [(.int 3), (.int 0), (.ref oc)])) rfl (by rw [hml]; rfl) (argsL := [(.ref oc), (.int 0), (.int 3)]) (rest := []) (lenOf pd_17 rfl) rfl (by exact Nat.le_of_eq rfl) (hb hby d7_23) (fun _ _ => ⟨rfl, rfl, (by decide : 1 + 1 ≤ _), (by decide : 3 + 6 ≤ _)⟩)
    dsimp only [Pt.U, Pt.locs, Pt.cells, Pt.slots] at X29 l29 y29 z29 st29 hQ29
    rw [l29, y29, z29] at X29
    obtain ⟨ou, ku, lo0, hi0, lo1, hi1, lo2, hi2, rfl, N29q, K29, gu, szu, Vu29, qlo0, qhi0, qlo1, qhi1, qlo2, qhi2⟩ := hQ29
    have N29 := Fr.app N3 N29q
    have Zs33 : n0 ≤ T29.heap.size := Nat.le_trans Zs5 K29.1
    have ne_oc_ou : oc ≠ ou := Nat.ne_of_lt (Nat.lt_of_lt_of_le f30.lt szu)
    have ne_b1_ou : b1 ≠ ou := Nat.ne_of_lt (Nat.lt_of_lt_of_le VbP.lt szu)
    have sz_ou : h0.size ≤ ou := Nat.le_trans f31.1 szu
    have os35 := (own_st_keep os32 K29 ns0)
    obtain ⟨_, _, ⟨T34, L34, k34, n34⟩, -, X34, ⟨Lc34, hQ34, l34, y34, z34⟩, st34⟩ := Jvm.LawKit.callS X29 hx (y := yn7) hown (mvT hZ (ow hw 116 rfl)) (mvT hZ (ow hw 117 rfl)) (mvT hZ (ow hw 39 rfl)) (mvT hZ (ow hw 118 rfl)) (by decide) (backOf (W := 0) (rm_gc l Z a0 hw [] ou (2 : Int32) vcs vf ku (6 : Int32) [(.int lo0), (.int hi0), (.int lo1), (.int hi1), (.int lo2), (.int hi2)] lo2 hi2 2 T29.heap n0 Zs33 os35 Vu29 (by decide) (by decide) (by decide) rfl rfl) hZ (ow hw 118 rfl) (ow hw 39 rfl) (by decide) (by decide)) (g := (mkF m 32 #[.val (.ref oc), .val (.int 0), .val (.int 3), .val (.ref b1), .val (.int 2), .val (.ref ou)] [(.int 2), (.ref ou)])) rfl (by rw [hml]; rfl) (argsL := [(.ref ou), (.int 2)]) (rest := []) (lenOf pd_5 rfl) rfl (by exact Nat.le_of_eq rfl) (hb hby d7_32) (fun _ _ => ⟨rfl, rfl, (by decide : 2 + 0 ≤ _), (by decide : 9 + 0 ≤ _)⟩)
    dsimp only [Pt.U, Pt.locs, Pt.cells, Pt.slots] at X34 l34 y34 z34 st34 hQ34
    rw [l34, y34, z34] at X34
    obtain ⟨zg, rfl, hzg, N34q, e34⟩ := hQ34
    have N34 := Fr.app N29 N34q
    have hc38_36 : (255 : Int) < zg.toInt := by omega
    subst hSS
    obtain ⟨fs, hr, q1, q2, q3, q4⟩ := X34.leave (v := some (.ref ou)) (fun h => by rw [Bd.returns] at h; cases h)
    refine ⟨_, _, pre0 _ ?_, q1, q2, _, _, rfl, ?_, ⟨_, rfl⟩, q3, q4.mono (by decide) (by decide)⟩
    · refine XS.iloadN X0.here hx rfl (hb hby d7_0) rfl ?_
      refine st1 _ ?_
      refine XS.astoreN X1.here hx rfl (hb hby d7_3) rfl rfl (l' := #[.val (.ref oc), .val (.int 0), .val (.int 3), .val (.ref b1), .unset, .unset]) rfl ?_
      refine XS.aloadN X1.here hx rfl (hb hby d7_4) rfl rfl ?_
      refine XS.iloadN X1.here hx rfl (hb hby d7_5) rfl ?_
      refine XS.aloadN X1.here hx rfl (hb hby d7_6) rfl rfl ?_
      refine XS.iconst X1.here hx rfl (hb hby d7_7) ?_
      refine XS.iloadN X1.here hx rfl (hb hby d7_8) rfl ?_
      refine st3 _ ?_
      refine XS.istore X3.here hx rfl (hb hby d7_12) rfl (l' := #[.val (.ref oc), .val (.int 0), .val (.int 3), .val (.ref b1), .val (.int 2), .unset]) rfl ?_
      refine XS.iload X3.here hx rfl (hb hby d7_14) rfl ?_
      refine XS.iloadN X3.here hx rfl (hb hby d7_16) rfl ?_
      refine XS.icmpNo X3.here hx rfl (hb hby d7_17) rfl (own_feq (a := (2 : Int32)) (b := (3 : Int32)) (by decide) (by decide) hc17_28).1 ?_
      refine XS.aloadN X3.here hx rfl (hb hby d7_20) rfl rfl ?_
      refine XS.iloadN X3.here hx rfl (hb hby d7_21) rfl ?_
      refine XS.iloadN X3.here hx rfl (hb hby d7_22) rfl ?_
      refine st29 _ ?_
      refine XS.astore X29.here hx rfl (hb hby d7_26) rfl rfl (l' := #[.val (.ref oc), .val (.int 0), .val (.int 3), .val (.ref b1), .val (.int 2), .val (.ref ou)]) rfl ?_
      refine XS.aload X29.here hx rfl (hb hby d7_28) rfl rfl ?_
      show Steps p.tables e below (T29.setTop (mkF m 30 #[.val (.ref oc), .val (.int 0), .val (.int 3), .val (.ref b1), .val (.int 2), .val (.ref ou)] [(.ref ou)])) _
      refine XS.iload X29.here hx rfl (hb hby d7_30) rfl ?_
      refine st34 _ ?_
      refine XS.sipush X34.here hx rfl (hb hby d7_35) ?_
      refine XS.icmpYes X34.here hx rfl (pc0 := 38) (pc' := 54) rfl (hb hby d7_38) rfl (own_tlt (a := (255 : Int32)) (b := zg) (by decide) rfl hc38_36).2.2.1 (by decide) (by decide) ?_
      refine XS.aload X34.here hx rfl (hb hby d7_54) rfl rfl ?_
      jvm_step X34.here [X34.here.top, hx, (hb hby d7_56), X34.method', Bd.returns, Value.isRef, FieldType.isReference]
      first | (intro acts; rw [hr _ acts rfl rfl rfl]) | rw [hr _ _ rfl rfl rfl]
      exact Steps.refl _
    · show Q_cr3 Z _ _ _ _ _ _ _ h0 n0 _ T34.heap _
      rw [e34]
      have f37 := (f31.trans K29 all0)
      exact ⟨ou, _, rfl, N34, f37, gu, sz_ou, Or.inr ⟨fun q => by omega, lo0, hi0, lo1, hi1, lo2, hi2, Vu29, qlo0, qhi0, qlo1, qhi1, qlo2, qhi2⟩⟩
theorem ef_rm_iw3 (m : MethodId) (x0 : Addr) (x1 : Addr) : entryFrame m #[(.ref x0), (.ref x1), (.int 0), (.int 3), .null] 6 = mkF m 0 #[.val (.ref x0), .val (.ref x1), .val (.int 0), .val (.int 3), .val .null, .unset] [] := by first | (simp [entryFrame, mkF, argsToLocals, Value.category]; done) | rfl
def Q_iw3 (Z : State) (oa : Addr) (oc : Addr) (vcs : Int32) (vf : Value) (kC : ClassId) (c0 : Int32) (c1 : Int32) (c2 : Int32) (h0 : Heap) (n0 : Nat) (v : Option Value) (h : Heap) (L : List Loc) : Prop := v = none ∧ Fr n0 L ∧ Keep h0 h [oa] ∧ Exa Z h oa "java/lang/String" ∧ ∃ (ob : Addr) (kb : ClassId), n0 ≤ ob ∧ h0.size ≤ ob ∧ Fld Z h oa "java/lang/String" "value" "[B" (.ref ob) ∧ ((Fld Z h oa "java/lang/String" "coder" "B" (.int 0) ∧ ((c0.toInt ≤ 255 ∧ c1.toInt ≤ 255 ∧ c2.toInt ≤ 255) ∧ ∃ bb0 bb1 bb2 : Int32, Arv Z h ob kb .byte (3 : Int32) [(.int bb0), (.int bb1), (.int bb2)] (.int 0) ∧ bb0.toInt % 256 = c0.toInt ∧ bb1.toInt % 256 = c1.toInt ∧ bb2.toInt % 256 = c2.toInt)) ∨ (Fld Z h oa "java/lang/String" "coder" "B" (.int 1) ∧ (¬ (c0.toInt ≤ 255 ∧ c1.toInt ≤ 255 ∧ c2.toInt ≤ 255) ∧ ∃ lo0 hi0 lo1 hi1 lo2 hi2 : Int32, Arv Z h ob kb .byte (6 : Int32) [(.int lo0), (.int hi0), (.int lo1), (.int hi1), (.int lo2), (.int hi2)] (.int 0) ∧ lo0.toInt % 256 = c0.toInt % 256 ∧ hi0.toInt % 256 = c0.toInt / 256 ∧ lo1.toInt % 256 = c1.toInt % 256 ∧ hi1.toInt % 256 = c1.toInt / 256 ∧ lo2.toInt % 256 = c2.toInt % 256 ∧ hi2.toInt % 256 = c2.toInt / 256)))
theorem rm_iw3 (l : Launch) (Z : State) (a0 : Array Value) (hw : ∀ d ∈ tables_1, d.before a0 Z = true) (ws : List Jvm.Cond) (oa : Addr) (oc : Addr) (vcs : Int32) (vf : Value) (kC : ClassId) (c0 : Int32) (c1 : Int32) (c2 : Int32) (h0 : Heap) (n0 : Nat) (Z0 : n0 ≤ h0.size) (Os : own_st Z h0 vcs vf) (Es : Exa Z h0 oa "java/lang/String") (Fc : Fld Z h0 oa "java/lang/String" "coder" "B" (.int 0)) (Fv : Fld Z h0 oa "java/lang/String" "value" "[B" .null) (ga : n0 ≤ oa) (nac : oa ≠ oc) (Vc : Arv Z h0 oc kC .char (3 : Int32) [(.int c0), (.int c1), (.int c2)] (.int 0)) (uc0 : 0 ≤ c0.toInt) (uc1 : 0 ≤ c1.toInt) (uc2 : 0 ≤ c2.toInt) (vc0 : c0.toInt < 65536) (vc1 : c1.toInt < 65536) (vc2 : c2.toInt < 65536) :
    MetFree l yn30 (head1 (Jvm.Cond.code yn30 kc30 6 none :: ws) ⟨4, 2, 9, 57⟩) (fun a U => a = #[(.ref oa), (.ref oc), (.int 0), (.int 3), .null] ∧ Z.Warmed39 U.vm ∧ U.heap = h0) (fun _ _ _ _ _ => True) (fun _ U o U' => ∃ v L, o = .returned v ∧ Q_iw3 Z oa oc vcs vf kC c0 c1 c2 h0 n0 v U'.heap L ∧ FrameEnd U o U' L 2 9) := by
  refine MetFree.of_bodySF (plainFor_of_name pn_1) hisR ?_
  intro p e s m args below meth c s₁ Bd hml0 hP hK
  obtain ⟨rfl, hZ, hh⟩ := hP
  have hx := Bd.exec
  have hby := Bd.bytes
  have hml : c.maxLocals = 6 := hml0
  have hown : s.vm.findClass "java/lang/String" = some m.cls := findClass_of_methodNamed Bd.named
  have hnm := (name_of_methodNamed Bd.named Bd.method).1
  have X0 : Stand p l e ⟨4, 2, 9, 57⟩ s m #[(.ref oa), (.ref oc), (.int 0), (.int 3), .null] below meth c s₁ [] 0 0 := Stand.of_body Bd
  have e0 : s₁.heap = h0 := by rw [← hh, Bd.state]; rfl
  have N0 := Fr.nil n0
  obtain ⟨SS, hSS⟩ : ∃ S, S = s₁.setTop (entryFrame m #[(.ref oa), (.ref oc), (.int 0), (.int 3), .null] 6) := ⟨_, rfl⟩
  have pre0 : oP p e below (s₁.setTop (mkF m 0 #[.val (.ref oa), .val (.ref oc), .val (.int 0), .val (.int 3), .val .null, .unset] [])) (SS) := by
    rw [hSS]; exact fun t k => castTop (ef_rm_iw3 m oa oc) k
  obtain ⟨T1, X1, e1, st1⟩ := initO X0 hx hZ hown (ow hw 16 rfl) (ow hw 17 rfl) (ow hw 18 rfl) e0 (g := (mkF m 1 #[.val (.ref oa), .val (.ref oc), .val (.int 0), .val (.int 3), .val .null, .unset] [(.ref oa)])) rfl (by rw [hml]; rfl) rfl (hb hby d3_1) (by decide) (W := 0) (by exact Nat.le_of_eq rfl) (by decide)
  have hc5_2 : ¬ ((3 : Int) = (0 : Int)) := by decide
  obtain ⟨T3, X3, e3, st3⟩ := getS2 X1 hx hZ hown (host := "") (Or.inl (ow hw 36 rfl)) Via.refl e1 Os.1 (g := (mkF m 27 #[.val (.ref oa), .val (.ref oc), .val (.int 0), .val (.int 3), .val .null, .unset] [])) rfl (hb hby d3_27)
  have hc30_4 : ¬ (vcs.toInt = (0 : Int)) := by (have q := Os.2.1; omega)
  obtain ⟨_, _, ⟨T5, L5, k5, n5⟩, -, X5, ⟨Lc5, hQ5, l5, y5, z5⟩, st5⟩ := Jvm.LawKit.callS X3 hx (y := yn28) hown (mvT hZ (ow hw 37 rfl)) (mvT hZ (ow hw 38 rfl)) (mvT hZ (ow hw 39 rfl)) (mvT hZ (ow hw 40 rfl)) (by decide) (backOf (W := 0) (rm_cr3 l Z a0 hw [] oc vcs vf kC c0 c1 c2 h0 n0 Z0 Os Vc uc0 uc1 uc2 vc0 vc1 vc2) hZ (ow hw 40 rfl) (ow hw 39 rfl) (by decide) (by decide)) (g := (mkF m 36 #[.val (.ref oa), .val (.ref oc), .val (.int 0), .val (.int 3), .val .null, .unset] [(.int 3), (.int 0), (.ref oc)])) rfl (by rw [hml]; rfl) (argsL := [(.ref oc), (.int 0), (.int 3)]) (rest := []) (lenOf pd_17 rfl) rfl (by exact Nat.le_of_eq rfl) (hb hby d3_36) (fun _ _ => ⟨rfl, e3, (by decide : 0 + 2 ≤ _), (by decide : 0 + 9 ≤ _)⟩)
  dsimp only [Pt.U, Pt.locs, Pt.cells, Pt.slots] at X5 l5 y5 z5 st5 hQ5
  rw [l5, y5, z5] at X5
  obtain ⟨ob, kb, rfl, N5q, K5, gb, szb, hO5⟩ := hQ5
  have N5 := Fr.app N0 N5q
  have Zs6 : n0 ≤ T5.heap.size := Nat.le_trans Z0 K5.1
  have ne_oa_ob : oa ≠ ob := Nat.ne_of_lt (Nat.lt_of_lt_of_le Es.lt szb)
  have ne_oc_ob : oc ≠ ob := Nat.ne_of_lt (Nat.lt_of_lt_of_le Vc.lt szb)
  have sz_ob : h0.size ≤ ob := Nat.le_trans (Keep.refl h0 [oa]).1 szb
  have pre7 : oP p e below (T5.setTop (mkF m 39 #[.val (.ref oa), .val (.ref oc), .val (.int 0), .val (.int 3), .val .null, .unset] [(.ref ob)])) (SS) := fun t kt => by
    refine pre0 _ ?_
    refine XS.aloadN X0.here hx rfl (hb hby d3_0) rfl rfl ?_
    refine st1 _ ?_
    refine XS.iloadN X1.here hx rfl (hb hby d3_4) rfl ?_
    refine XS.ifYes X1.here hx rfl (pc0 := 5) (pc' := 27) rfl (hb hby d3_5) rfl (own_if (own_feq (a := (3 : Int32)) (b := (0 : Int32)) (by decide) (by decide) hc5_2).2) (by decide) (by decide) ?_
    refine st3 _ ?_
    refine XS.ifNo X3.here hx rfl (hb hby d3_30) rfl (own_if (own_feq (a := vcs) (b := (0 : Int32)) rfl (by decide) hc30_4).1) ?_
    refine XS.aloadN X3.here hx rfl (hb hby d3_33) rfl rfl ?_
    refine XS.iloadN X3.here hx rfl (hb hby d3_34) rfl ?_
    refine XS.iloadN X3.here hx rfl (hb hby d3_35) rfl ?_
    refine st5 _ ?_
    exact kt
  rcases hO5 with ⟨hall, bb0, bb1, bb2, VbL, qbb0, qbb1, qbb2⟩ | ⟨hall, lo0, hi0, lo1, hi1, lo2, hi2, VbU, qlo0, qhi0, qlo1, qhi1, qlo2, qhi2⟩
  · have own_mL := True.intro
    obtain ⟨_, _, ⟨T8, L8, k8, n8⟩, -, X8, ⟨Lc8, hQ8, l8, y8, z8⟩, st8⟩ := Jvm.LawKit.callS X5 hx (y := yn29) hown (mvT hZ (ow hw 44 rfl)) (mvT hZ (ow hw 45 rfl)) (mvT hZ (ow hw 39 rfl)) (mvT hZ (ow hw 46 rfl)) (by decide) (backOf (W := 1) (rm_cg l Z a0 hw [] ob (3 : Int32) (0 : Int32) (3 : Int32) kb [(.int bb0), (.int bb1), (.int bb2)] T5.heap n0 Zs6 VbL (Or.inl ⟨rfl, rfl⟩)) hZ (ow hw 46 rfl) (ow hw 39 rfl) (by decide) (by decide)) (g := (mkF m 45 #[.val (.ref oa), .val (.ref oc), .val (.int 0), .val (.int 3), .val .null, .val (.ref ob)] [(.int 3), (.ref ob), (.ref oa)])) rfl (by rw [hml]; rfl) (argsL := [(.ref ob), (.int 3)]) (rest := [(.ref oa)]) (lenOf pd_18 rfl) rfl (by exact Nat.le_of_eq rfl) (hb hby d3_45) (fun _ _ => ⟨rfl, rfl, (by decide : 2 + 0 ≤ _), (by decide : 9 + 0 ≤ _)⟩)
    dsimp only [Pt.U, Pt.locs, Pt.cells, Pt.slots] at X8 l8 y8 z8 st8 hQ8
    rw [l8, y8, z8] at X8
    obtain ⟨zf, rfl, hzf, N8q, e8⟩ := hQ8
    have N8 := Fr.app N5 N8q
    have pre9 : oP p e below (T8.setTop (mkF m 48 #[.val (.ref oa), .val (.ref oc), .val (.int 0), .val (.int 3), .val .null, .val (.ref ob)] [(.int zf), (.ref oa)])) (SS) := fun t kt => by
      refine pre7 _ ?_
      refine XS.astore X5.here hx rfl (hb hby d3_39) rfl rfl (l' := #[.val (.ref oa), .val (.ref oc), .val (.int 0), .val (.int 3), .val .null, .val (.ref ob)]) rfl ?_
      refine XS.aloadN X5.here hx rfl (hb hby d3_41) rfl rfl ?_
      refine XS.aload X5.here hx rfl (hb hby d3_42) rfl rfl ?_
      refine XS.iloadN X5.here hx rfl (hb hby d3_44) rfl ?_
      refine st8 _ ?_
      exact kt
    subst hzf
    have pre10 : oP p e below (T8.setTop (mkF m 48 #[.val (.ref oa), .val (.ref oc), .val (.int 0), .val (.int 3), .val .null, .val (.ref ob)] [(.int 0), (.ref oa)])) (SS) := pre9
    have f11 := (Fc.keep K5 nin0)
    have f12 := (Es.keep K5)
    obtain ⟨T13, h13, X13, e13, W13, st13⟩ := putFN X8 hx hZ hown (ow hw 26 rfl) Via.refl e8 f11 f12 (Or.inr ⟨(ow hw 22 rfl), rfl, hnm⟩) (ow hw 7 rfl) (ty := .byte) (v' := (.int 0)) (by decide) rfl rfl (g := (mkF m 48 #[.val (.ref oa), .val (.ref oc), .val (.int 0), .val (.int 3), .val .null, .val (.ref ob)] [(.int 0), (.ref oa)])) rfl rfl (hb hby d3_48)
    have N13 := Fr.snoc X13 N8 ga
    have Zs14 : n0 ≤ h13.size := by rw [W13.size]; exact Zs6
    have Fw13 := f11.same W13
    have f15 := ((Fv.keep K5 nin0).other W13 (Or.inr (slot_ne (Or.inr (ow hw 21 rfl)) (Or.inr (ow hw 22 rfl)) (by decide) (t := (.array .byte)) (t' := .byte) (by decide) (by decide))))
    have f16 := (f12.wr W13)
    obtain ⟨T17, h17, X17, e17, W17, st17⟩ := putF X13 hx hZ hown (host := "") (Or.inl (ow hw 25 rfl)) Via.refl e13 f15 f16 (Or.inr ⟨(ow hw 21 rfl), rfl, hnm⟩) (ow hw 7 rfl) (ty := (.array .byte)) (by decide) rfl rfl (g := (mkF m 54 #[.val (.ref oa), .val (.ref oc), .val (.int 0), .val (.int 3), .val .null, .val (.ref ob)] [(.ref ob), (.ref oa)])) rfl rfl (hb hby d3_54)
    have N17 := Fr.snoc X17 N13 ga
    have Zs18 : n0 ≤ h17.size := by rw [W17.size]; exact Zs14
    have Fw17 := f15.same W17
    subst hSS
    obtain ⟨fs, hr, q1, q2, q3, q4⟩ := X17.leave (v := none) (fun _ => rfl)
    refine ⟨_, _, pre10 _ ?_, q1, q2, _, _, rfl, ?_, ⟨_, rfl⟩, q3, q4.mono (by decide) (by decide)⟩
    · refine st13 _ ?_
      refine XS.aloadN X13.here hx rfl (hb hby d3_51) rfl rfl ?_
      refine XS.aload X13.here hx rfl (hb hby d3_52) rfl rfl ?_
      refine st17 _ ?_
      show Steps p.tables e below (T17.setTop (mkF m 57 #[.val (.ref oa), .val (.ref oc), .val (.int 0), .val (.int 3), .val .null, .val (.ref ob)] [])) _
      exact X17.returnOut hx Bd.returns (hb hby d3_57) hr
    · show Q_iw3 Z _ _ _ _ _ _ _ _ h0 n0 _ T17.heap _
      rw [e17]
      have f19 := (Fw13.other W17 (Or.inr (slot_ne (Or.inr (ow hw 22 rfl)) (Or.inr (ow hw 21 rfl)) (by decide) (t := .byte) (t' := (.array .byte)) (by decide) (by decide))))
      have f20 := ((VbL.other W13 (Ne.symm ne_oa_ob)).other W17 (Ne.symm ne_oa_ob))
      have f21 := ((((Keep.refl h0 [oa]).trans K5 all0).wr W13 (Or.inl (List.mem_of_getElem? (i := 0) rfl))).wr W17 (Or.inl (List.mem_of_getElem? (i := 0) rfl)))
      have f22 := (f16.wr W17)
      exact ⟨rfl, N17, f21, f22, ob, kb, gb, sz_ob, Fw17, Or.inl ⟨f19, hall, bb0, bb1, bb2, f20, qbb0, qbb1, qbb2⟩⟩
  · have own_mU := True.intro
    obtain ⟨_, _, ⟨T23, L23, k23, n23⟩, -, X23, ⟨Lc23, hQ23, l23, y23, z23⟩, st23⟩ := Jvm.LawKit.callS X5 hx (y := yn29) hown (mvT hZ (ow hw 44 rfl)) (mvT hZ (ow hw 45 rfl)) (mvT hZ (ow hw 39 rfl)) (mvT hZ (ow hw 46 rfl)) (by decide) (backOf (W := 1) (rm_cg l Z a0 hw [] ob (3 : Int32) (1 : Int32) (6 : Int32) kb [(.int lo0), (.int hi0), (.int lo1), (.int hi1), (.int lo2), (.int hi2)] T5.heap n0 Zs6 VbU (Or.inr ⟨rfl, by decide⟩)) hZ (ow hw 46 rfl) (ow hw 39 rfl) (by decide) (by decide)) (g := (mkF m 45 #[.val (.ref oa), .val (.ref oc), .val (.int 0), .val (.int 3), .val .null, .val (.ref ob)] [(.int 3), (.ref ob), (.ref oa)])) rfl (by rw [hml]; rfl) (argsL := [(.ref ob), (.int 3)]) (rest := [(.ref oa)]) (lenOf pd_18 rfl) rfl (by exact Nat.le_of_eq rfl) (hb hby d3_45) (fun _ _ => ⟨rfl, rfl, (by decide : 2 + 0 ≤ _), (by decide : 9 + 0 ≤ _)⟩)
    dsimp only [Pt.U, Pt.locs, Pt.cells, Pt.slots] at X23 l23 y23 z23 st23 hQ23
    rw [l23, y23, z23] at X23
    obtain ⟨zf, rfl, hzf, N23q, e23⟩ := hQ23
    have N23 := Fr.app N5 N23q
    have pre24 : oP p e below (T23.setTop (mkF m 48 #[.val (.ref oa), .val (.ref oc), .val (.int 0), .val (.int 3), .val .null, .val (.ref ob)] [(.int zf), (.ref oa)])) (SS) := fun t kt => by
      refine pre7 _ ?_
      refine XS.astore X5.here hx rfl (hb hby d3_39) rfl rfl (l' := #[.val (.ref oa), .val (.ref oc), .val (.int 0), .val (.int 3), .val .null, .val (.ref ob)]) rfl ?_
      refine XS.aloadN X5.here hx rfl (hb hby d3_41) rfl rfl ?_
      refine XS.aload X5.here hx rfl (hb hby d3_42) rfl rfl ?_
      refine XS.iloadN X5.here hx rfl (hb hby d3_44) rfl ?_
      refine st23 _ ?_
      exact kt
    subst hzf
    have pre25 : oP p e below (T23.setTop (mkF m 48 #[.val (.ref oa), .val (.ref oc), .val (.int 0), .val (.int 3), .val .null, .val (.ref ob)] [(.int 1), (.ref oa)])) (SS) := pre24
    have f26 := (Fc.keep K5 nin0)
    have f27 := (Es.keep K5)
    obtain ⟨T28, h28, X28, e28, W28, st28⟩ := putFN X23 hx hZ hown (ow hw 26 rfl) Via.refl e23 f26 f27 (Or.inr ⟨(ow hw 22 rfl), rfl, hnm⟩) (ow hw 7 rfl) (ty := .byte) (v' := (.int 1)) (by decide) rfl rfl (g := (mkF m 48 #[.val (.ref oa), .val (.ref oc), .val (.int 0), .val (.int 3), .val .null, .val (.ref ob)] [(.int 1), (.ref oa)])) rfl rfl (hb hby d3_48)
    have N28 := Fr.snoc X28 N23 ga
    have Zs29 : n0 ≤ h28.size := by rw [W28.size]; exact Zs6
    have Fw28 := f26.same W28
    have f30 := ((Fv.keep K5 nin0).other W28 (Or.inr (slot_ne (Or.inr (ow hw 21 rfl)) (Or.inr (ow hw 22 rfl)) (by decide) (t := (.array .byte)) (t' := .byte) (by decide) (by decide))))
    have f31 := (f27.wr W28)
    obtain ⟨T32, h32, X32, e32, W32, st32⟩ := putF X28 hx hZ hown (host := "") (Or.inl (ow hw 25 rfl)) Via.refl e28 f30 f31 (Or.inr ⟨(ow hw 21 rfl), rfl, hnm⟩) (ow hw 7 rfl) (ty := (.array .byte)) (by decide) rfl rfl (g := (mkF m 54 #[.val (.ref oa), .val (.ref oc), .val (.int 0), .val (.int 3), .val .null, .val (.ref ob)] [(.ref ob), (.ref oa)])) rfl rfl (hb hby d3_54)
    have N32 := Fr.snoc X32 N28 ga
    have Zs33 : n0 ≤ h32.size := by rw [W32.size]; exact Zs29
    have Fw32 := f30.same W32
    subst hSS
    obtain ⟨fs, hr, q1, q2, q3, q4⟩ := X32.leave (v := none) (fun _ => rfl)
    refine ⟨_, _, pre25 _ ?_, q1, q2, _, _, rfl, ?_, ⟨_, rfl⟩, q3, q4.mono (by decide) (by decide)⟩
    · refine st28 _ ?_
      refine XS.aloadN X28.here hx rfl (hb hby d3_51) rfl rfl ?_
      refine XS.aload X28.here hx rfl (hb hby d3_52) rfl rfl ?_
      refine st32 _ ?_
      show Steps p.tables e below (T32.setTop (mkF m 57 #[.val (.ref oa), .val (.ref oc), .val (.int 0), .val (.int 3), .val .null, .val (.ref ob)] [])) _
      exact X32.returnOut hx Bd.returns (hb hby d3_57) hr
    · show Q_iw3 Z _ _ _ _ _ _ _ _ h0 n0 _ T32.heap _
      rw [e32]
      have f34 := (Fw28.other W32 (Or.inr (slot_ne (Or.inr (ow hw 22 rfl)) (Or.inr (ow hw 21 rfl)) (by decide) (t := .byte) (t' := (.array .byte)) (by decide) (by decide))))
      have f35 := ((VbU.other W28 (Ne.symm ne_oa_ob)).other W32 (Ne.symm ne_oa_ob))
      have f36 := ((((Keep.refl h0 [oa]).trans K5 all0).wr W28 (Or.inl (List.mem_of_getElem? (i := 0) rfl))).wr W32 (Or.inl (List.mem_of_getElem? (i := 0) rfl)))
      have f37 := (f31.wr W32)
      exact ⟨rfl, N32, f36, f37, ob, kb, gb, sz_ob, Fw32, Or.inr ⟨f34, hall, lo0, hi0, lo1, hi1, lo2, hi2, f35, qlo0, qhi0, qlo1, qhi1, qlo2, qhi2⟩⟩
theorem ef_rm_mu3 (m : MethodId) (x0 : Addr) (x1 : Addr) : entryFrame m #[(.ref x0), (.ref x1)] 2 = mkF m 0 #[.val (.ref x0), .val (.ref x1)] [] := by first | (simp [entryFrame, mkF, argsToLocals, Value.category]; done) | rfl
def Q_mu3 (Z : State) (oa : Addr) (oc : Addr) (vcs : Int32) (vf : Value) (kC : ClassId) (c0 : Int32) (c1 : Int32) (c2 : Int32) (h0 : Heap) (n0 : Nat) (v : Option Value) (h : Heap) (L : List Loc) : Prop := v = none ∧ Fr n0 L ∧ Keep h0 h [oa] ∧ Exa Z h oa "java/lang/String" ∧ ∃ (ob : Addr) (kb : ClassId), n0 ≤ ob ∧ h0.size ≤ ob ∧ Fld Z h oa "java/lang/String" "value" "[B" (.ref ob) ∧ ((Fld Z h oa "java/lang/String" "coder" "B" (.int 0) ∧ ((c0.toInt ≤ 255 ∧ c1.toInt ≤ 255 ∧ c2.toInt ≤ 255) ∧ ∃ bb0 bb1 bb2 : Int32, Arv Z h ob kb .byte (3 : Int32) [(.int bb0), (.int bb1), (.int bb2)] (.int 0) ∧ bb0.toInt % 256 = c0.toInt ∧ bb1.toInt % 256 = c1.toInt ∧ bb2.toInt % 256 = c2.toInt)) ∨ (Fld Z h oa "java/lang/String" "coder" "B" (.int 1) ∧ (¬ (c0.toInt ≤ 255 ∧ c1.toInt ≤ 255 ∧ c2.toInt ≤ 255) ∧ ∃ lo0 hi0 lo1 hi1 lo2 hi2 : Int32, Arv Z h ob kb .byte (6 : Int32) [(.int lo0), (.int hi0), (.int lo1), (.int hi1), (.int lo2), (.int hi2)] (.int 0) ∧ lo0.toInt % 256 = c0.toInt % 256 ∧ hi0.toInt % 256 = c0.toInt / 256 ∧ lo1.toInt % 256 = c1.toInt % 256 ∧ hi1.toInt % 256 = c1.toInt / 256 ∧ lo2.toInt % 256 = c2.toInt % 256 ∧ hi2.toInt % 256 = c2.toInt / 256)))
theorem rm_mu3 (l : Launch) (Z : State) (a0 : Array Value) (hw : ∀ d ∈ tables_1, d.before a0 Z = true) (ws : List Jvm.Cond) (oa : Addr) (oc : Addr) (vcs : Int32) (vf : Value) (kC : ClassId) (c0 : Int32) (c1 : Int32) (c2 : Int32) (h0 : Heap) (n0 : Nat) (Z0 : n0 ≤ h0.size) (Os : own_st Z h0 vcs vf) (Es : Exa Z h0 oa "java/lang/String") (Fc : Fld Z h0 oa "java/lang/String" "coder" "B" (.int 0)) (Fv : Fld Z h0 oa "java/lang/String" "value" "[B" .null) (ga : n0 ≤ oa) (nac : oa ≠ oc) (Vc : Arv Z h0 oc kC .char (3 : Int32) [(.int c0), (.int c1), (.int c2)] (.int 0)) (uc0 : 0 ≤ c0.toInt) (uc1 : 0 ≤ c1.toInt) (uc2 : 0 ≤ c2.toInt) (vc0 : c0.toInt < 65536) (vc1 : c1.toInt < 65536) (vc2 : c2.toInt < 65536) :
    MetFree l yn31 (head1 (Jvm.Cond.code yn31 kc31 2 none :: ws) ⟨5, 2, 9, 74⟩) (fun a U => a = #[(.ref oa), (.ref oc)] ∧ Z.Warmed39 U.vm ∧ U.heap = h0) (fun _ _ _ _ _ => True) (fun _ U o U' => ∃ v L, o = .returned v ∧ Q_mu3 Z oa oc vcs vf kC c0 c1 c2 h0 n0 v U'.heap L ∧ FrameEnd U o U' L 2 9) := by
  refine MetFree.of_bodySF (plainFor_of_name pn_1) hisR ?_
  intro p e s m args below meth c s₁ Bd hml0 hP hK
  obtain ⟨rfl, hZ, hh⟩ := hP
  have hx := Bd.exec
  have hby := Bd.bytes
  have hml : c.maxLocals = 2 := hml0
  have hown : s.vm.findClass "java/lang/String" = some m.cls := findClass_of_methodNamed Bd.named
  have hnm := (name_of_methodNamed Bd.named Bd.method).1
  have X0 : Stand p l e ⟨5, 2, 9, 74⟩ s m #[(.ref oa), (.ref oc)] below meth c s₁ [] 0 0 := Stand.of_body Bd
  have e0 : s₁.heap = h0 := by rw [← hh, Bd.state]; rfl
  have N0 := Fr.nil n0
  obtain ⟨SS, hSS⟩ : ∃ S, S = s₁.setTop (entryFrame m #[(.ref oa), (.ref oc)] 2) := ⟨_, rfl⟩
  have pre0 : oP p e below (s₁.setTop (mkF m 0 #[.val (.ref oa), .val (.ref oc)] [])) (SS) := by
    rw [hSS]; exact fun t k => castTop (ef_rm_mu3 m oa oc) k
  obtain ⟨cl1, Ar1, q1, S1, M1, H1, G1⟩ := id Vc
  obtain ⟨_, _, ⟨T2, L2, k2, n2⟩, -, X2, ⟨Lc2, hQ2, l2, y2, z2⟩, st2⟩ := X0.specialBack hx (y := yn30) rfl hown (mvT hZ (ow hw 12 rfl)) (mvT hZ (ow hw 13 rfl)) (mvT hZ (ow hw 15 rfl)) (by decide) (backOf (W := 0) (rm_iw3 l Z a0 hw [] oa oc vcs vf kC c0 c1 c2 h0 n0 Z0 Os Es Fc Fv ga nac Vc uc0 uc1 uc2 vc0 vc1 vc2) hZ (ow hw 15 rfl) (ow hw 8 rfl) (by decide) (by decide)) (g := (mkF m 6 #[.val (.ref oa), .val (.ref oc)] [.null, (.int 3), (.int 0), (.ref oc), (.ref oa)])) rfl (by rw [hml]; rfl) (Steps.refl _) (a := oa) (argsL := [(.ref oc), (.int 0), (.int 3), .null]) (rest := []) (lenOf pd_19 rfl) rfl (by exact Nat.le_of_eq rfl) (hb hby d2_6) (fun _ _ => ⟨rfl, e0, (by decide : 0 + 2 ≤ _), (by decide : 0 + 9 ≤ _)⟩)
  dsimp only [Pt.U, Pt.locs, Pt.cells, Pt.slots] at X2 l2 y2 z2 st2 hQ2
  rw [l2, y2, z2] at X2
  obtain ⟨rfl, N2q, K2, A2, ob, kb, gb, szb, Fv2, hO2⟩ := hQ2
  have N2 := Fr.app N0 N2q
  have Zs3 : n0 ≤ T2.heap.size := Nat.le_trans Z0 K2.1
  have ne_oa_ob : oa ≠ ob := Nat.ne_of_lt (Nat.lt_of_lt_of_le Es.lt szb)
  have ne_oc_ob : oc ≠ ob := Nat.ne_of_lt (Nat.lt_of_lt_of_le Vc.lt szb)
  have sz_ob : h0.size ≤ ob := Nat.le_trans (Keep.refl h0 [oa]).1 szb
  subst hSS
  obtain ⟨fs, hr, q1, q2, q3, q4⟩ := X2.leave (v := none) (fun _ => rfl)
  refine ⟨_, _, pre0 _ ?_, q1, q2, _, _, rfl, ?_, ⟨_, rfl⟩, q3, q4.mono (by decide) (by decide)⟩
  · refine XS.aloadN X0.here hx rfl (hb hby d2_0) rfl rfl ?_
    refine XS.aloadN X0.here hx rfl (hb hby d2_1) rfl rfl ?_
    refine XS.iconst X0.here hx rfl (hb hby d2_2) ?_
    refine XS.aloadN X0.here hx rfl (hb hby d2_3) rfl rfl ?_
    refine X0.arraylength hx (by rw [e0]; exact Ar1.1) (State.isArrayOf_alike hZ.alike Ar1.2.1) (g := (mkF m 4 #[.val (.ref oa), .val (.ref oc)] [(.ref oc), (.int 0), (.ref oc), (.ref oa)])) rfl rfl (hb hby d2_4) _ ?_
    rw [len_of S1 M1]
    refine XS.aconstNull X0.here hx rfl (hb hby d2_5) ?_
    refine st2.trans ?_
    exact X2.returnOut hx Bd.returns (hb hby d2_9) hr
  · show Q_mu3 Z _ _ _ _ _ _ _ _ h0 n0 _ T2.heap _
    have f4 := ((Keep.refl h0 [oa]).trans K2 (allS (P := fun x => x ∈ [oa] ∨ h0.size ≤ x) (Or.inl (List.mem_of_getElem? (i := 0) rfl)) all0))
    exact ⟨rfl, N2, f4, A2, ob, kb, gb, sz_ob, Fv2, hO2⟩
def own_s4 (Z : State) (h : Heap) (oa ob : Addr) (kb : ClassId) (c0 c1 c2 c3 : Int32) : Prop := Exa Z h oa "java/lang/String" ∧ Fld Z h oa "java/lang/String" "value" "[B" (.ref ob) ∧ ((Fld Z h oa "java/lang/String" "coder" "B" (.int 0) ∧ ((c0.toInt ≤ 255 ∧ c1.toInt ≤ 255 ∧ c2.toInt ≤ 255 ∧ c3.toInt ≤ 255) ∧ ∃ bb0 bb1 bb2 bb3 : Int32, Arv Z h ob kb .byte (4 : Int32) [(.int bb0), (.int bb1), (.int bb2), (.int bb3)] (.int 0) ∧ bb0.toInt % 256 = c0.toInt ∧ bb1.toInt % 256 = c1.toInt ∧ bb2.toInt % 256 = c2.toInt ∧ bb3.toInt % 256 = c3.toInt)) ∨ (Fld Z h oa "java/lang/String" "coder" "B" (.int 1) ∧ (¬ (c0.toInt ≤ 255 ∧ c1.toInt ≤ 255 ∧ c2.toInt ≤ 255 ∧ c3.toInt ≤ 255) ∧ ∃ lo0 hi0 lo1 hi1 lo2 hi2 lo3 hi3 : Int32, Arv Z h ob kb .byte (8 : Int32) [(.int lo0), (.int hi0), (.int lo1), (.int hi1), (.int lo2), (.int hi2), (.int lo3), (.int hi3)] (.int 0) ∧ lo0.toInt % 256 = c0.toInt % 256 ∧ hi0.toInt % 256 = c0.toInt / 256 ∧ lo1.toInt % 256 = c1.toInt % 256 ∧ hi1.toInt % 256 = c1.toInt / 256 ∧ lo2.toInt % 256 = c2.toInt % 256 ∧ hi2.toInt % 256 = c2.toInt / 256 ∧ lo3.toInt % 256 = c3.toInt % 256 ∧ hi3.toInt % 256 = c3.toInt / 256)))
theorem ef_rm_nm4 (m : MethodId) (x0 : Addr) : entryFrame m #[(.ref x0)] 1 = mkF m 0 #[.val (.ref x0)] [] := by first | (simp [entryFrame, mkF, argsToLocals, Value.category]; done) | rfl
def Q_nm4 (Z : State) (oa : Addr) (vcs : Int32) (vf : Value) (ob : Addr) (kb : ClassId) (c0 : Int32) (c1 : Int32) (c2 : Int32) (c3 : Int32) (h0 : Heap) (n0 : Nat) (v : Option Value) (h : Heap) (L : List Loc) : Prop := ∃ z : Int32, v = some (.int z) ∧ ((z.toInt = 1 ∧ ¬ (c0.toInt = 0 ∨ c1.toInt = 0 ∨ c2.toInt = 0 ∨ c3.toInt = 0)) ∨ (z.toInt = 0 ∧ ¬ (¬ (c0.toInt = 0 ∨ c1.toInt = 0 ∨ c2.toInt = 0 ∨ c3.toInt = 0)))) ∧ Fr n0 L ∧ Keep h0 h []
theorem rm_nm4 (l : Launch) (Z : State) (a0 : Array Value) (hw : ∀ d ∈ tables_1, d.before a0 Z = true) (ws : List Jvm.Cond) (oa : Addr) (vcs : Int32) (vf : Value) (ob : Addr) (kb : ClassId) (c0 : Int32) (c1 : Int32) (c2 : Int32) (c3 : Int32) (h0 : Heap) (n0 : Nat) (Z0 : n0 ≤ h0.size) (Os : own_st Z h0 vcs vf) (Sx : own_s4 Z h0 oa ob kb c0 c1 c2 c3) (uc0 : 0 ≤ c0.toInt) (uc1 : 0 ≤ c1.toInt) (uc2 : 0 ≤ c2.toInt) (uc3 : 0 ≤ c3.toInt) (vc0 : c0.toInt < 65536) (vc1 : c1.toInt < 65536) (vc2 : c2.toInt < 65536) (vc3 : c3.toInt < 65536) :
    MetFree l yn22 (head1 (Jvm.Cond.code yn22 kc22 1 (some .boolean) :: ws) ⟨7, 4, 20, 100⟩) (fun a U => a = #[(.ref oa)] ∧ Z.Warmed39 U.vm ∧ U.heap = h0 ∧ CHv Z own_EL U.vm h0) (fun _ _ _ _ _ => True) (fun _ U o U' => ∃ v L, o = .returned v ∧ Q_nm4 Z oa vcs vf ob kb c0 c1 c2 c3 h0 n0 v U'.heap L ∧ CHr Z own_EL U.vm U.heap U'.vm U'.heap ∧ ReturnedEndW U o U' L 4 20) := by
  refine MetFree.of_bodySF (plainFor_of_name pn_5) hisR ?_
  intro p e s m args below meth c s₁ Bd hml0 hP hK
  obtain ⟨rfl, hZ, hh, hC⟩ := hP
  have hx := Bd.exec
  have hby := Bd.bytes
  have hml : c.maxLocals = 1 := hml0
  have hown : s.vm.findClass "com/example/attestbridge/attestbridge/sync/AclPolicy" = some m.cls := findClass_of_methodNamed Bd.named
  have hnm := (name_of_methodNamed Bd.named Bd.method).1
  have X0 : Stand p l e ⟨7, 4, 20, 100⟩ (s.setVm s.vm) m #[(.ref oa)] below meth c s₁ [] 0 0 := Stand.of_body Bd
  have e0 : s₁.heap = h0 := by rw [← hh, Bd.state]; rfl
  have N0 := Fr.nil n0
  have hEL := own_EW hw
  have wS := own_wS hw
  have CR0 : CHr Z own_EL s.vm h0 s.vm h0 := CHr.refl hC
  have hS0 : s.Since s.vm h0.size := (State.WarmedH.refl s).since _
  have hk0 : h0.size ≤ h0.size := Nat.le_refl _
  obtain ⟨SS, hSS⟩ : ∃ S, S = s₁.setTop (entryFrame m #[(.ref oa)] 1) := ⟨_, rfl⟩
  have pre0 : oP p e below (s₁.setTop (mkF m 0 #[.val (.ref oa)] [])) (SS) := by
    rw [hSS]; exact fun t k => castTop (ef_rm_nm4 m oa) k
  obtain ⟨Es, Fv, hO⟩ := id Sx
  rcases hO with ⟨Fc, hall, bb0, bb1, bb2, bb3, Vb, qbb0, qbb1, qbb2, qbb3⟩ | ⟨Fc, hall, lo0, hi0, lo1, hi1, lo2, hi2, lo3, hi3, Vb, qlo0, qhi0, qlo1, qhi1, qlo2, qhi2, qlo3, qhi3⟩
  · have own_m0 := True.intro
    have hy0 := own_byte Vb 0 (by decide) rfl
    have hy1 := own_byte Vb 1 (by decide) rfl
    have hy2 := own_byte Vb 2 (by decide) rfl
    have hy3 := own_byte Vb 3 (by decide) rfl
    have pre1 : oP p e below (s₁.setTop (mkF m 1 #[.val (.ref oa)] [(.ref oa)])) (SS) := fun t kt => by
      refine pre0 _ ?_
      refine XS.aloadN X0.here hx rfl (hb hby d5_0) rfl rfl ?_
      exact kt
    obtain ⟨cq2, kq2, q2a, q2b, q2c⟩ := isOf hZ e0 Es
    obtain ⟨_, _, ⟨T2, L2, k2, n2⟩, -, X2, ⟨Lc2, hQ2, l2, y2, z2⟩, st2⟩ := X0.virtualBack hx (y := yn1) (z := yn1) hown (mvT hZ (ow hw 31 rfl)) (mvT hZ (ow hw 32 rfl)) (notFace_of_selects (args := #[]) (mvT hZ (ow hw 34 rfl))) (mvT hZ (ow hw 34 rfl)) (mvT hZ (ow hw 33 rfl)) (by decide) (backOf (W := 0) (rm_emp l Z a0 hw [] oa ob kb (4 : Int32) [(.int bb0), (.int bb1), (.int bb2), (.int bb3)] h0 n0 Z0 Fv Vb) hZ (ow hw 35 rfl) (ow hw 8 rfl) (by decide) (by decide)) q2a q2c (g := (mkF m 1 #[.val (.ref oa)] [(.ref oa)])) rfl (by rw [hml]; rfl) (Steps.refl _) (argsL := []) (rest := []) (lenOf pd_10 rfl) rfl (by exact Nat.le_of_eq rfl) (hb hby d5_1) (fun _ _ => ⟨rfl, e0, (by decide : 0 + 0 ≤ _), (by decide : 0 + 0 ≤ _)⟩)
    dsimp only [Pt.U, Pt.locs, Pt.cells, Pt.slots] at X2 l2 y2 z2 st2 hQ2
    rw [l2, y2, z2] at X2
    obtain ⟨ze, rfl, hze, N2q, e2⟩ := hQ2
    have N2 := Fr.app N0 N2q
    have pre3 : oP p e below (T2.setTop (mkF m 4 #[.val (.ref oa)] [(.int ze)])) (SS) := fun t kt => by
      refine pre1 _ ?_
      refine st2.trans ?_
      exact kt
    have eze : ze = (0 : Int32) := by
      rcases hze with ⟨_, q⟩ | ⟨q, _⟩
      · exact absurd q (by decide)
      · exact q
    subst eze
    have pre4 : oP p e below (T2.setTop (mkF m 4 #[.val (.ref oa)] [(.int 0)])) (SS) := pre3
    have hc4_5 : (0 : Int) = (0 : Int) := by decide
    have pre6 : oP p e below (T2.setTop (mkF m 8 #[.val (.ref oa)] [(.ref oa)])) (SS) := fun t kt => by
      refine pre4 _ ?_
      refine XS.ifNo X2.here hx rfl (hb hby d5_4) rfl (own_if (own_teq (a := (0 : Int32)) (b := (0 : Int32)) (by decide) (by decide) hc4_5).2) ?_
      refine XS.aloadN X2.here hx rfl (hb hby d5_7) rfl rfl ?_
      exact kt
    obtain ⟨la7, T7, h7, k17, lb7, kb7, X7, e7, E7, hS7, hk7, hZ, hown, A7, Fc7, Fv7, V7, lt7, lu7, CRn7, Lt7, Sf7, st7⟩ := ldcCH X2 hx hZ hown (text := ".") (ow hw 47 rfl) wS e2 hS0 hk0 hEL (List.mem_of_getElem? (i := 0) rfl) CR0.1 (vs := [(.int 46)]) (z := (1 : Int32)) ⟨by decide, by rfl⟩ (by decide) rfl (g := (mkF m 8 #[.val (.ref oa)] [(.ref oa)])) rfl (hb hby d5_8) (n := 4) (by decide) (by decide) (by decide) (by decide)
    have CR8 := CR0.trans CRn7
    have Zs9 : n0 ≤ h7.size := Nat.le_trans Z0 E7.1
    have pre10 : oP p e below (T7.setTop (mkF m 10 #[.val (.ref oa)] [(.ref la7), (.ref oa)])) (SS) := fun t kt => by
      refine pre6 _ ?_
      refine st7 _ ?_
      exact kt
    have os11 := (own_st_ext Os E7)
    have f12 := (Es.ext E7)
    have f13 := (Fc.ext E7)
    have f14 := (Fv.ext E7)
    have f15 := (Vb.ext E7)
    obtain ⟨cq16, kq16, q16a, q16b, q16c⟩ := isOf hZ e7 f12
    obtain ⟨_, _, ⟨T16, L16, k16, n16⟩, -, X16, ⟨Lc16, hQ16, l16, y16, z16⟩, st16⟩ := X7.virtualBack hx (y := yn3) (z := yn3) hown (mvT hZ (ow hw 48 rfl)) (mvT hZ (ow hw 49 rfl)) (notFace_of_selects (args := #[]) (mvT hZ (ow hw 51 rfl))) (mvT hZ (ow hw 51 rfl)) (mvT hZ (ow hw 50 rfl)) (by decide) (backOf (W := 0) (rm_eqN l Z a0 hw [] oa la7 vcs vf ob kb lb7 kb7 (4 : Int32) [(.int bb0), (.int bb1), (.int bb2), (.int bb3)] (1 : Int32) [(.int 46)] h7 n0 Zs9 os11 f12 f13 f14 f15 A7 Fc7 Fv7 V7 (by decide) (own_ne_len f14 Fv7 f15 V7 (by decide))) hZ (ow hw 52 rfl) (ow hw 8 rfl) (by decide) (by decide)) q16a q16c (g := (mkF m 10 #[.val (.ref oa)] [(.ref la7), (.ref oa)])) rfl (by rw [hml]; rfl) (Steps.refl _) (argsL := [(.ref la7)]) (rest := []) (lenOf pd_12 rfl) rfl (by exact Nat.le_of_eq rfl) (hb hby d5_10) (fun _ _ => ⟨rfl, e7, (by decide : 2 + 0 ≤ _), (by decide : 8 + 0 ≤ _)⟩)
    dsimp only [Pt.U, Pt.locs, Pt.cells, Pt.slots] at X16 l16 y16 z16 st16 hQ16
    rw [l16, y16, z16] at X16
    obtain ⟨zd, rfl, hzd, N16q, e16⟩ := hQ16
    have N16 := Fr.app N2 N16q
    have pre17 : oP p e below (T16.setTop (mkF m 13 #[.val (.ref oa)] [(.int zd)])) (SS) := fun t kt => by
      refine pre10 _ ?_
      refine st16.trans ?_
      exact kt
    subst hzd
    have pre18 : oP p e below (T16.setTop (mkF m 13 #[.val (.ref oa)] [(.int 0)])) (SS) := pre17
    have hc13_19 : (0 : Int) = (0 : Int) := by decide
    have pre20 : oP p e below (T16.setTop (mkF m 17 #[.val (.ref oa)] [(.ref oa)])) (SS) := fun t kt => by
      refine pre18 _ ?_
      refine XS.ifNo X16.here hx rfl (hb hby d5_13) rfl (own_if (own_teq (a := (0 : Int32)) (b := (0 : Int32)) (by decide) (by decide) hc13_19).2) ?_
      refine XS.aloadN X16.here hx rfl (hb hby d5_16) rfl rfl ?_
      exact kt
    obtain ⟨la21, T21, h21, k121, lb21, kb21, X21, e21, E21, hS21, hk21, hZ, hown, A21, Fc21, Fv21, V21, lt21, lu21, CRn21, Lt21, Sf21, st21⟩ := ldcCH X16 hx hZ hown (text := "..") (ow hw 58 rfl) wS e16 hS7 hk7 hEL (List.mem_of_getElem? (i := 1) rfl) CR8.1 (vs := [(.int 46), (.int 46)]) (z := (2 : Int32)) ⟨by decide, by rfl⟩ (by decide) rfl (g := (mkF m 17 #[.val (.ref oa)] [(.ref oa)])) rfl (hb hby d5_17) (n := 8) (by decide) (by decide) (by decide) (by decide)
    have CR22 := CR8.trans CRn21
    have Zs23 : n0 ≤ h21.size := Nat.le_trans Zs9 E21.1
    have pre24 : oP p e below (T21.setTop (mkF m 19 #[.val (.ref oa)] [(.ref la21), (.ref oa)])) (SS) := fun t kt => by
      refine pre20 _ ?_
      refine st21 _ ?_
      exact kt
    have os25 := (own_st_ext os11 E21)
    have f26 := (f12.ext E21)
    have f27 := (f13.ext E21)
    have f28 := (f14.ext E21)
    have f29 := (f15.ext E21)
    obtain ⟨cq30, kq30, q30a, q30b, q30c⟩ := isOf hZ e21 f26
    obtain ⟨_, _, ⟨T30, L30, k30, n30⟩, -, X30, ⟨Lc30, hQ30, l30, y30, z30⟩, st30⟩ := X21.virtualBack hx (y := yn3) (z := yn3) hown (mvT hZ (ow hw 48 rfl)) (mvT hZ (ow hw 49 rfl)) (notFace_of_selects (args := #[]) (mvT hZ (ow hw 51 rfl))) (mvT hZ (ow hw 51 rfl)) (mvT hZ (ow hw 50 rfl)) (by decide) (backOf (W := 0) (rm_eqN l Z a0 hw [] oa la21 vcs vf ob kb lb21 kb21 (4 : Int32) [(.int bb0), (.int bb1), (.int bb2), (.int bb3)] (2 : Int32) [(.int 46), (.int 46)] h21 n0 Zs23 os25 f26 f27 f28 f29 A21 Fc21 Fv21 V21 (by decide) (own_ne_len f28 Fv21 f29 V21 (by decide))) hZ (ow hw 52 rfl) (ow hw 8 rfl) (by decide) (by decide)) q30a q30c (g := (mkF m 19 #[.val (.ref oa)] [(.ref la21), (.ref oa)])) rfl (by rw [hml]; rfl) (Steps.refl _) (argsL := [(.ref la21)]) (rest := []) (lenOf pd_12 rfl) rfl (by exact Nat.le_of_eq rfl) (hb hby d5_19) (fun _ _ => ⟨rfl, e21, (by decide : 4 + 0 ≤ _), (by decide : 20 + 0 ≤ _)⟩)
    dsimp only [Pt.U, Pt.locs, Pt.cells, Pt.slots] at X30 l30 y30 z30 st30 hQ30
    rw [l30, y30, z30] at X30
    obtain ⟨zdd, rfl, hzdd, N30q, e30⟩ := hQ30
    have N30 := Fr.app N16 N30q
    have pre31 : oP p e below (T30.setTop (mkF m 22 #[.val (.ref oa)] [(.int zdd)])) (SS) := fun t kt => by
      refine pre24 _ ?_
      refine st30.trans ?_
      exact kt
    subst hzdd
    have pre32 : oP p e below (T30.setTop (mkF m 22 #[.val (.ref oa)] [(.int 0)])) (SS) := pre31
    have hc22_33 : (0 : Int) = (0 : Int) := by decide
    have pre34 : oP p e below (T30.setTop (mkF m 27 #[.val (.ref oa)] [(.int 0), (.ref oa)])) (SS) := fun t kt => by
      refine pre32 _ ?_
      refine XS.ifNo X30.here hx rfl (hb hby d5_22) rfl (own_if (own_teq (a := (0 : Int32)) (b := (0 : Int32)) (by decide) (by decide) hc22_33).2) ?_
      refine XS.aloadN X30.here hx rfl (hb hby d5_25) rfl rfl ?_
      refine XS.iconst X30.here hx rfl (hb hby d5_26) ?_
      exact kt
    have HH35 := rm_ioc4 l Z a0 hw [] ob vcs vf kb bb0 bb1 bb2 bb3 h21 n0 Zs23 os25 f29
    obtain ⟨cq36, kq36, q36a, q36b, q36c⟩ := isOf hZ e30 f26
    obtain ⟨_, _, ⟨T36, L36, k36, n36⟩, -, X36, ⟨Lc36, hQ36, l36, y36, z36⟩, st36⟩ := X30.virtualBack hx (y := yn21) (z := yn21) hown (mvT hZ (ow hw 59 rfl)) (mvT hZ (ow hw 60 rfl)) (notFace_of_selects (args := #[]) (mvT hZ (ow hw 62 rfl))) (mvT hZ (ow hw 62 rfl)) (mvT hZ (ow hw 61 rfl)) (by decide) (backOf (W := 0) (rm_sx0 l Z a0 hw [] oa vcs vf ob kb (4 : Int32) (4 : Int32) [(.int bb0), (.int bb1), (.int bb2), (.int bb3)] (fun z => (0 ≤ z.toInt ∧ (bb0.toInt = 0 ∨ bb1.toInt = 0 ∨ bb2.toInt = 0 ∨ bb3.toInt = 0)) ∨ (z.toInt < 0 ∧ ¬ (bb0.toInt = 0 ∨ bb1.toInt = 0 ∨ bb2.toInt = 0 ∨ bb3.toInt = 0))) (Q_ioc4 Z ob vcs vf kb bb0 bb1 bb2 bb3 h21 n0) h21 n0 Zs23 os25 f26 f27 f28 f29 (by decide) (by decide) (by decide) HH35 (fun _ _ _ q => q)) hZ (ow hw 63 rfl) (ow hw 8 rfl) (by decide) (by decide)) q36a q36c (g := (mkF m 27 #[.val (.ref oa)] [(.int 0), (.ref oa)])) rfl (by rw [hml]; rfl) (Steps.refl _) (argsL := [(.int 0)]) (rest := []) (lenOf pd_13 rfl) rfl (by exact Nat.le_of_eq rfl) (hb hby d5_27) (fun _ _ => ⟨rfl, e30, (by decide : 4 + 0 ≤ _), (by decide : 20 + 0 ≤ _)⟩)
    dsimp only [Pt.U, Pt.locs, Pt.cells, Pt.slots] at X36 l36 y36 z36 st36 hQ36
    rw [l36, y36, z36] at X36
    obtain ⟨zi, rfl, hzi, N36q, e36⟩ := hQ36
    have N36 := Fr.app N30 N36q
    have pre38 : oP p e below (T36.setTop (mkF m 30 #[.val (.ref oa)] [(.int zi)])) (SS) := fun t kt => by
      refine pre34 _ ?_
      refine st36.trans ?_
      exact kt
    by_cases hc30_37 : zi.toInt < (0 : Int)
    · subst hSS
      obtain ⟨fs, hr, hrun, hended, hREW⟩ := X36.leaveW hS21 (by rw [e36]; exact hk21) (v := some (.int 1)) (fun h => by rw [Bd.returns] at h; cases h)
      refine ⟨_, _, pre38 _ ?_, hrun, hended, _, _, rfl, ?_, ?_, ⟨hREW.1, hREW.2.1, hREW.2.2.1, hREW.2.2.2.mono (by decide) (by decide)⟩⟩
      · refine XS.ifNo X36.here hx rfl (hb hby d5_30) rfl (own_if (own_tlt (a := zi) (b := (0 : Int32)) rfl (by decide) hc30_37).2.1) ?_
        refine XS.iconst X36.here hx rfl (hb hby d5_33) ?_
        refine XS.goto X36.here hx rfl (pc0 := 34) (pc' := 38) rfl (hb hby d5_34) (by decide) (by decide) ?_
        exact retN X36 hx (t := .boolean) Bd.returns (by simp) (hb hby d5_38) hr
      · show Q_nm4 Z _ _ _ _ _ _ _ _ _ h0 n0 _ T36.heap _
        rw [e36]
        have f39 := (((Keep.refl h0 []).ext E7).ext E21)
        exact ⟨_, rfl, by have iv : ((1 : Int32)).toInt = (1 : Int) := (by decide); omega, N36, f39⟩
      · show CHr Z own_EL s.vm s.heap T36.vm T36.heap
        rw [hh, e36]
        exact CR22.trans (CHv.at X36 hZ hEL CR22.1)
    · subst hSS
      obtain ⟨fs, hr, hrun, hended, hREW⟩ := X36.leaveW hS21 (by rw [e36]; exact hk21) (v := some (.int 0)) (fun h => by rw [Bd.returns] at h; cases h)
      refine ⟨_, _, pre38 _ ?_, hrun, hended, _, _, rfl, ?_, ?_, ⟨hREW.1, hREW.2.1, hREW.2.2.1, hREW.2.2.2.mono (by decide) (by decide)⟩⟩
      · refine XS.ifYes X36.here hx rfl (pc0 := 30) (pc' := 37) rfl (hb hby d5_30) rfl (own_if (own_flt (a := zi) (b := (0 : Int32)) rfl (by decide) hc30_37).2.1) (by decide) (by decide) ?_
        refine XS.iconst X36.here hx rfl (hb hby d5_37) ?_
        exact retN X36 hx (t := .boolean) Bd.returns (by simp) (hb hby d5_38) hr
      · show Q_nm4 Z _ _ _ _ _ _ _ _ _ h0 n0 _ T36.heap _
        rw [e36]
        have f40 := (((Keep.refl h0 []).ext E7).ext E21)
        exact ⟨_, rfl, by have iv : ((0 : Int32)).toInt = (0 : Int) := (by decide); omega, N36, f40⟩
      · show CHr Z own_EL s.vm s.heap T36.vm T36.heap
        rw [hh, e36]
        exact CR22.trans (CHv.at X36 hZ hEL CR22.1)
  · have own_m1 := True.intro
    have pre41 : oP p e below (s₁.setTop (mkF m 1 #[.val (.ref oa)] [(.ref oa)])) (SS) := fun t kt => by
      refine pre0 _ ?_
      refine XS.aloadN X0.here hx rfl (hb hby d5_0) rfl rfl ?_
      exact kt
    obtain ⟨cq42, kq42, q42a, q42b, q42c⟩ := isOf hZ e0 Es
    obtain ⟨_, _, ⟨T42, L42, k42, n42⟩, -, X42, ⟨Lc42, hQ42, l42, y42, z42⟩, st42⟩ := X0.virtualBack hx (y := yn1) (z := yn1) hown (mvT hZ (ow hw 31 rfl)) (mvT hZ (ow hw 32 rfl)) (notFace_of_selects (args := #[]) (mvT hZ (ow hw 34 rfl))) (mvT hZ (ow hw 34 rfl)) (mvT hZ (ow hw 33 rfl)) (by decide) (backOf (W := 0) (rm_emp l Z a0 hw [] oa ob kb (8 : Int32) [(.int lo0), (.int hi0), (.int lo1), (.int hi1), (.int lo2), (.int hi2), (.int lo3), (.int hi3)] h0 n0 Z0 Fv Vb) hZ (ow hw 35 rfl) (ow hw 8 rfl) (by decide) (by decide)) q42a q42c (g := (mkF m 1 #[.val (.ref oa)] [(.ref oa)])) rfl (by rw [hml]; rfl) (Steps.refl _) (argsL := []) (rest := []) (lenOf pd_10 rfl) rfl (by exact Nat.le_of_eq rfl) (hb hby d5_1) (fun _ _ => ⟨rfl, e0, (by decide : 0 + 0 ≤ _), (by decide : 0 + 0 ≤ _)⟩)
    dsimp only [Pt.U, Pt.locs, Pt.cells, Pt.slots] at X42 l42 y42 z42 st42 hQ42
    rw [l42, y42, z42] at X42
    obtain ⟨ze, rfl, hze, N42q, e42⟩ := hQ42
    have N42 := Fr.app N0 N42q
    have pre43 : oP p e below (T42.setTop (mkF m 4 #[.val (.ref oa)] [(.int ze)])) (SS) := fun t kt => by
      refine pre41 _ ?_
      refine st42.trans ?_
      exact kt
    have eze : ze = (0 : Int32) := by
      rcases hze with ⟨_, q⟩ | ⟨q, _⟩
      · exact absurd q (by decide)
      · exact q
    subst eze
    have pre44 : oP p e below (T42.setTop (mkF m 4 #[.val (.ref oa)] [(.int 0)])) (SS) := pre43
    have hc4_45 : (0 : Int) = (0 : Int) := by decide
    have pre46 : oP p e below (T42.setTop (mkF m 8 #[.val (.ref oa)] [(.ref oa)])) (SS) := fun t kt => by
      refine pre44 _ ?_
      refine XS.ifNo X42.here hx rfl (hb hby d5_4) rfl (own_if (own_teq (a := (0 : Int32)) (b := (0 : Int32)) (by decide) (by decide) hc4_45).2) ?_
      refine XS.aloadN X42.here hx rfl (hb hby d5_7) rfl rfl ?_
      exact kt
    obtain ⟨la47, T47, h47, k147, lb47, kb47, X47, e47, E47, hS47, hk47, hZ, hown, A47, Fc47, Fv47, V47, lt47, lu47, CRn47, Lt47, Sf47, st47⟩ := ldcCH X42 hx hZ hown (text := ".") (ow hw 47 rfl) wS e42 hS0 hk0 hEL (List.mem_of_getElem? (i := 0) rfl) CR0.1 (vs := [(.int 46)]) (z := (1 : Int32)) ⟨by decide, by rfl⟩ (by decide) rfl (g := (mkF m 8 #[.val (.ref oa)] [(.ref oa)])) rfl (hb hby d5_8) (n := 4) (by decide) (by decide) (by decide) (by decide)
    have CR48 := CR0.trans CRn47
    have Zs49 : n0 ≤ h47.size := Nat.le_trans Z0 E47.1
    have pre50 : oP p e below (T47.setTop (mkF m 10 #[.val (.ref oa)] [(.ref la47), (.ref oa)])) (SS) := fun t kt => by
      refine pre46 _ ?_
      refine st47 _ ?_
      exact kt
    have os51 := (own_st_ext Os E47)
    have f52 := (Es.ext E47)
    have f53 := (Fc.ext E47)
    have f54 := (Fv.ext E47)
    have f55 := (Vb.ext E47)
    obtain ⟨cq56, kq56, q56a, q56b, q56c⟩ := isOf hZ e47 f52
    obtain ⟨_, _, ⟨T56, L56, k56, n56⟩, -, X56, ⟨Lc56, hQ56, l56, y56, z56⟩, st56⟩ := X47.virtualBack hx (y := yn3) (z := yn3) hown (mvT hZ (ow hw 48 rfl)) (mvT hZ (ow hw 49 rfl)) (notFace_of_selects (args := #[]) (mvT hZ (ow hw 51 rfl))) (mvT hZ (ow hw 51 rfl)) (mvT hZ (ow hw 50 rfl)) (by decide) (backOf (W := 0) (rm_eqU l Z a0 hw [] oa la47 vcs vf ob kb lb47 kb47 (8 : Int32) [(.int lo0), (.int hi0), (.int lo1), (.int hi1), (.int lo2), (.int hi2), (.int lo3), (.int hi3)] (1 : Int32) [(.int 46)] h47 n0 Zs49 os51 f52 f53 f54 f55 A47 Fc47 Fv47 V47 (own_ne_cod f53 Fc47)) hZ (ow hw 52 rfl) (ow hw 8 rfl) (by decide) (by decide)) q56a q56c (g := (mkF m 10 #[.val (.ref oa)] [(.ref la47), (.ref oa)])) rfl (by rw [hml]; rfl) (Steps.refl _) (argsL := [(.ref la47)]) (rest := []) (lenOf pd_12 rfl) rfl (by exact Nat.le_of_eq rfl) (hb hby d5_10) (fun _ _ => ⟨rfl, e47, (by decide : 2 + 0 ≤ _), (by decide : 8 + 0 ≤ _)⟩)
    dsimp only [Pt.U, Pt.locs, Pt.cells, Pt.slots] at X56 l56 y56 z56 st56 hQ56
    rw [l56, y56, z56] at X56
    obtain ⟨zd, rfl, hzd, N56q, e56⟩ := hQ56
    have N56 := Fr.app N42 N56q
    have pre57 : oP p e below (T56.setTop (mkF m 13 #[.val (.ref oa)] [(.int zd)])) (SS) := fun t kt => by
      refine pre50 _ ?_
      refine st56.trans ?_
      exact kt
    subst hzd
    have pre58 : oP p e below (T56.setTop (mkF m 13 #[.val (.ref oa)] [(.int 0)])) (SS) := pre57
    have hc13_59 : (0 : Int) = (0 : Int) := by decide
    have pre60 : oP p e below (T56.setTop (mkF m 17 #[.val (.ref oa)] [(.ref oa)])) (SS) := fun t kt => by
      refine pre58 _ ?_
      refine XS.ifNo X56.here hx rfl (hb hby d5_13) rfl (own_if (own_teq (a := (0 : Int32)) (b := (0 : Int32)) (by decide) (by decide) hc13_59).2) ?_
      refine XS.aloadN X56.here hx rfl (hb hby d5_16) rfl rfl ?_
      exact kt
    obtain ⟨la61, T61, h61, k161, lb61, kb61, X61, e61, E61, hS61, hk61, hZ, hown, A61, Fc61, Fv61, V61, lt61, lu61, CRn61, Lt61, Sf61, st61⟩ := ldcCH X56 hx hZ hown (text := "..") (ow hw 58 rfl) wS e56 hS47 hk47 hEL (List.mem_of_getElem? (i := 1) rfl) CR48.1 (vs := [(.int 46), (.int 46)]) (z := (2 : Int32)) ⟨by decide, by rfl⟩ (by decide) rfl (g := (mkF m 17 #[.val (.ref oa)] [(.ref oa)])) rfl (hb hby d5_17) (n := 8) (by decide) (by decide) (by decide) (by decide)
    have CR62 := CR48.trans CRn61
    have Zs63 : n0 ≤ h61.size := Nat.le_trans Zs49 E61.1
    have pre64 : oP p e below (T61.setTop (mkF m 19 #[.val (.ref oa)] [(.ref la61), (.ref oa)])) (SS) := fun t kt => by
      refine pre60 _ ?_
      refine st61 _ ?_
      exact kt
    have os65 := (own_st_ext os51 E61)
    have f66 := (f52.ext E61)
    have f67 := (f53.ext E61)
    have f68 := (f54.ext E61)
    have f69 := (f55.ext E61)
    obtain ⟨cq70, kq70, q70a, q70b, q70c⟩ := isOf hZ e61 f66
    obtain ⟨_, _, ⟨T70, L70, k70, n70⟩, -, X70, ⟨Lc70, hQ70, l70, y70, z70⟩, st70⟩ := X61.virtualBack hx (y := yn3) (z := yn3) hown (mvT hZ (ow hw 48 rfl)) (mvT hZ (ow hw 49 rfl)) (notFace_of_selects (args := #[]) (mvT hZ (ow hw 51 rfl))) (mvT hZ (ow hw 51 rfl)) (mvT hZ (ow hw 50 rfl)) (by decide) (backOf (W := 0) (rm_eqU l Z a0 hw [] oa la61 vcs vf ob kb lb61 kb61 (8 : Int32) [(.int lo0), (.int hi0), (.int lo1), (.int hi1), (.int lo2), (.int hi2), (.int lo3), (.int hi3)] (2 : Int32) [(.int 46), (.int 46)] h61 n0 Zs63 os65 f66 f67 f68 f69 A61 Fc61 Fv61 V61 (own_ne_cod f67 Fc61)) hZ (ow hw 52 rfl) (ow hw 8 rfl) (by decide) (by decide)) q70a q70c (g := (mkF m 19 #[.val (.ref oa)] [(.ref la61), (.ref oa)])) rfl (by rw [hml]; rfl) (Steps.refl _) (argsL := [(.ref la61)]) (rest := []) (lenOf pd_12 rfl) rfl (by exact Nat.le_of_eq rfl) (hb hby d5_19) (fun _ _ => ⟨rfl, e61, (by decide : 4 + 0 ≤ _), (by decide : 20 + 0 ≤ _)⟩)
    dsimp only [Pt.U, Pt.locs, Pt.cells, Pt.slots] at X70 l70 y70 z70 st70 hQ70
    rw [l70, y70, z70] at X70
    obtain ⟨zdd, rfl, hzdd, N70q, e70⟩ := hQ70
    have N70 := Fr.app N56 N70q
    have pre71 : oP p e below (T70.setTop (mkF m 22 #[.val (.ref oa)] [(.int zdd)])) (SS) := fun t kt => by
      refine pre64 _ ?_
      refine st70.trans ?_
      exact kt
    subst hzdd
    have pre72 : oP p e below (T70.setTop (mkF m 22 #[.val (.ref oa)] [(.int 0)])) (SS) := pre71
    have hc22_73 : (0 : Int) = (0 : Int) := by decide
    have pre74 : oP p e below (T70.setTop (mkF m 27 #[.val (.ref oa)] [(.int 0), (.ref oa)])) (SS) := fun t kt => by
      refine pre72 _ ?_
      refine XS.ifNo X70.here hx rfl (hb hby d5_22) rfl (own_if (own_teq (a := (0 : Int32)) (b := (0 : Int32)) (by decide) (by decide) hc22_73).2) ?_
      refine XS.aloadN X70.here hx rfl (hb hby d5_25) rfl rfl ?_
      refine XS.iconst X70.here hx rfl (hb hby d5_26) ?_
      exact kt
    have HH75 := rm_iu4 l Z a0 hw [] ob vcs vf kb lo0 hi0 lo1 hi1 lo2 hi2 lo3 hi3 h61 n0 Zs63 os65 f69
    obtain ⟨cq76, kq76, q76a, q76b, q76c⟩ := isOf hZ e70 f66
    obtain ⟨_, _, ⟨T76, L76, k76, n76⟩, -, X76, ⟨Lc76, hQ76, l76, y76, z76⟩, st76⟩ := X70.virtualBack hx (y := yn21) (z := yn21) hown (mvT hZ (ow hw 59 rfl)) (mvT hZ (ow hw 60 rfl)) (notFace_of_selects (args := #[]) (mvT hZ (ow hw 62 rfl))) (mvT hZ (ow hw 62 rfl)) (mvT hZ (ow hw 61 rfl)) (by decide) (backOf (W := 0) (rm_sx1 l Z a0 hw [] oa vcs vf ob kb (4 : Int32) (8 : Int32) [(.int lo0), (.int hi0), (.int lo1), (.int hi1), (.int lo2), (.int hi2), (.int lo3), (.int hi3)] (fun z => (0 ≤ z.toInt ∧ ((lo0.toInt % 256 + 256 * (hi0.toInt % 256)) = 0 ∨ (lo1.toInt % 256 + 256 * (hi1.toInt % 256)) = 0 ∨ (lo2.toInt % 256 + 256 * (hi2.toInt % 256)) = 0 ∨ (lo3.toInt % 256 + 256 * (hi3.toInt % 256)) = 0)) ∨ (z.toInt < 0 ∧ ¬ ((lo0.toInt % 256 + 256 * (hi0.toInt % 256)) = 0 ∨ (lo1.toInt % 256 + 256 * (hi1.toInt % 256)) = 0 ∨ (lo2.toInt % 256 + 256 * (hi2.toInt % 256)) = 0 ∨ (lo3.toInt % 256 + 256 * (hi3.toInt % 256)) = 0))) (Q_iu4 Z ob vcs vf kb lo0 hi0 lo1 hi1 lo2 hi2 lo3 hi3 h61 n0) h61 n0 Zs63 os65 f66 f67 f68 f69 (by decide) (by decide) (by decide) HH75 (fun _ _ _ q => q)) hZ (ow hw 63 rfl) (ow hw 8 rfl) (by decide) (by decide)) q76a q76c (g := (mkF m 27 #[.val (.ref oa)] [(.int 0), (.ref oa)])) rfl (by rw [hml]; rfl) (Steps.refl _) (argsL := [(.int 0)]) (rest := []) (lenOf pd_13 rfl) rfl (by exact Nat.le_of_eq rfl) (hb hby d5_27) (fun _ _ => ⟨rfl, e70, (by decide : 4 + 0 ≤ _), (by decide : 20 + 0 ≤ _)⟩)
    dsimp only [Pt.U, Pt.locs, Pt.cells, Pt.slots] at X76 l76 y76 z76 st76 hQ76
    rw [l76, y76, z76] at X76
    obtain ⟨zi, rfl, hzi, N76q, e76⟩ := hQ76
    have N76 := Fr.app N70 N76q
    have pre78 : oP p e below (T76.setTop (mkF m 30 #[.val (.ref oa)] [(.int zi)])) (SS) := fun t kt => by
      refine pre74 _ ?_
      refine st76.trans ?_
      exact kt
    by_cases hc30_77 : zi.toInt < (0 : Int)
    · subst hSS
      obtain ⟨fs, hr, hrun, hended, hREW⟩ := X76.leaveW hS61 (by rw [e76]; exact hk61) (v := some (.int 1)) (fun h => by rw [Bd.returns] at h; cases h)
      refine ⟨_, _, pre78 _ ?_, hrun, hended, _, _, rfl, ?_, ?_, ⟨hREW.1, hREW.2.1, hREW.2.2.1, hREW.2.2.2.mono (by decide) (by decide)⟩⟩
      · refine XS.ifNo X76.here hx rfl (hb hby d5_30) rfl (own_if (own_tlt (a := zi) (b := (0 : Int32)) rfl (by decide) hc30_77).2.1) ?_
        refine XS.iconst X76.here hx rfl (hb hby d5_33) ?_
        refine XS.goto X76.here hx rfl (pc0 := 34) (pc' := 38) rfl (hb hby d5_34) (by decide) (by decide) ?_
        exact retN X76 hx (t := .boolean) Bd.returns (by simp) (hb hby d5_38) hr
      · show Q_nm4 Z _ _ _ _ _ _ _ _ _ h0 n0 _ T76.heap _
        rw [e76]
        have f79 := (((Keep.refl h0 []).ext E47).ext E61)
        exact ⟨_, rfl, by have iv : ((1 : Int32)).toInt = (1 : Int) := (by decide); omega, N76, f79⟩
      · show CHr Z own_EL s.vm s.heap T76.vm T76.heap
        rw [hh, e76]
        exact CR62.trans (CHv.at X76 hZ hEL CR62.1)
    · subst hSS
      obtain ⟨fs, hr, hrun, hended, hREW⟩ := X76.leaveW hS61 (by rw [e76]; exact hk61) (v := some (.int 0)) (fun h => by rw [Bd.returns] at h; cases h)
      refine ⟨_, _, pre78 _ ?_, hrun, hended, _, _, rfl, ?_, ?_, ⟨hREW.1, hREW.2.1, hREW.2.2.1, hREW.2.2.2.mono (by decide) (by decide)⟩⟩
      · refine XS.ifYes X76.here hx rfl (pc0 := 30) (pc' := 37) rfl (hb hby d5_30) rfl (own_if (own_flt (a := zi) (b := (0 : Int32)) rfl (by decide) hc30_77).2.1) (by decide) (by decide) ?_
        refine XS.iconst X76.here hx rfl (hb hby d5_37) ?_
        exact retN X76 hx (t := .boolean) Bd.returns (by simp) (hb hby d5_38) hr
      · show Q_nm4 Z _ _ _ _ _ _ _ _ _ h0 n0 _ T76.heap _
        rw [e76]
        have f80 := (((Keep.refl h0 []).ext E47).ext E61)
        exact ⟨_, rfl, by have iv : ((0 : Int32)).toInt = (0 : Int) := (by decide); omega, N76, f80⟩
      · show CHr Z own_EL s.vm s.heap T76.vm T76.heap
        rw [hh, e76]
        exact CR62.trans (CHv.at X76 hZ hEL CR62.1)
theorem ef_rm_nbf4 (m : MethodId)  : entryFrame m #[(.int 4)] 1 = mkF m 0 #[.val (.int 4)] [] := by first | (simp [entryFrame, mkF, argsToLocals, Value.category]; done) | rfl
def Q_nbf4 (Z : State)  (h0 : Heap) (n0 : Nat) (v : Option Value) (h : Heap) (L : List Loc) : Prop := ∃ (ob : Addr) (kb : ClassId), v = some (.ref ob) ∧ Fr n0 L ∧ Keep h0 h [] ∧ n0 ≤ ob ∧ h0.size ≤ ob ∧ Arv Z h ob kb .byte (8 : Int32) [(.int 0), (.int 0), (.int 0), (.int 0), (.int 0), (.int 0), (.int 0), (.int 0)] (.int 0)
theorem rm_nbf4 (l : Launch) (Z : State) (a0 : Array Value) (hw : ∀ d ∈ tables_1, d.before a0 Z = true) (ws : List Jvm.Cond)  (h0 : Heap) (n0 : Nat) (Z0 : n0 ≤ h0.size) :
    MetFree l yn24 (head1 (Jvm.Cond.code yn24 kc24 1 (some (.array .byte)) :: ws) ⟨1, 1, 8, 12⟩) (fun a U => a = #[(.int 4)] ∧ Z.Warmed39 U.vm ∧ U.heap = h0) (fun _ _ _ _ _ => True) (fun _ U o U' => ∃ v L, o = .returned v ∧ Q_nbf4 Z  h0 n0 v U'.heap L ∧ FrameEnd U o U' L 1 8) := by
  refine MetFree.of_bodySF (plainFor_of_name pn_3) hisR ?_
  intro p e s m args below meth c s₁ Bd hml0 hP hK
  obtain ⟨rfl, hZ, hh⟩ := hP
  have hx := Bd.exec
  have hby := Bd.bytes
  have hml : c.maxLocals = 1 := hml0
  have hown : s.vm.findClass "java/lang/StringUTF16" = some m.cls := findClass_of_methodNamed Bd.named
  have hnm := (name_of_methodNamed Bd.named Bd.method).1
  have X0 : Stand p l e ⟨1, 1, 8, 12⟩ s m #[(.int 4)] below meth c s₁ [] 0 0 := Stand.of_body Bd
  have e0 : s₁.heap = h0 := by rw [← hh, Bd.state]; rfl
  have N0 := Fr.nil n0
  obtain ⟨SS, hSS⟩ : ∃ S, S = s₁.setTop (entryFrame m #[(.int 4)] 1) := ⟨_, rfl⟩
  have pre0 : oP p e below (s₁.setTop (mkF m 0 #[.val (.int 4)] [])) (SS) := by
    rw [hSS]; exact fun t k => castTop (ef_rm_nbf4 m ) k
  obtain ⟨_, _, ⟨T1, L1, k1, n1⟩, -, X1, ⟨Lc1, hQ1, l1, y1, z1⟩, st1⟩ := Jvm.LawKit.callS X0 hx (y := yn23) hown (mvT hZ (ow hw 106 rfl)) (mvT hZ (ow hw 107 rfl)) (mvT hZ (ow hw 39 rfl)) (mvT hZ (ow hw 108 rfl)) (by decide) (backOf (W := 0) (rm_nbl l Z a0 hw [] (4 : Int32) h0 n0 Z0 (by decide) (by decide)) hZ (ow hw 108 rfl) (ow hw 39 rfl) (by decide) (by decide)) (g := (mkF m 1 #[.val (.int 4)] [(.int 4)])) rfl (by rw [hml]; rfl) (argsL := [(.int 4)]) (rest := []) (lenOf pd_13 rfl) rfl (by exact Nat.le_of_eq rfl) (hb hby d23_1) (fun _ _ => ⟨rfl, e0, (by decide : 0 + 0 ≤ _), (by decide : 0 + 0 ≤ _)⟩)
  dsimp only [Pt.U, Pt.locs, Pt.cells, Pt.slots] at X1 l1 y1 z1 st1 hQ1
  rw [l1, y1, z1] at X1
  obtain ⟨zz, rfl, hzz, N1q, e1⟩ := hQ1
  have N1 := Fr.app N0 N1q
  have pre2 : oP p e below (T1.setTop (mkF m 4 #[.val (.int 4)] [(.int zz)])) (SS) := fun t kt => by
    refine pre0 _ ?_
    refine XS.iloadN X0.here hx rfl (hb hby d23_0) rfl ?_
    refine st1 _ ?_
    exact kt
  have ezz : zz = (8 : Int32) := Int32.toInt_inj.mp (by rw [hzz]; decide)
  subst ezz
  have pre3 : oP p e below (T1.setTop (mkF m 4 #[.val (.int 4)] [(.int 8)])) (SS) := pre2
  obtain ⟨T4, h4, k4, X4, e4, E4, A4, st4⟩ := newP X1 hx hZ (ow hw 20 rfl) e1 (g := (mkF m 4 #[.val (.int 4)] [(.int 8)])) rfl (hb hby d23_4) rfl (by decide) (cap := 8) (by decide) (by decide) (by decide) (by decide)
  obtain ⟨b4, g4⟩ : ∃ z, z = h0.size := ⟨_, rfl⟩
  have g_b4 : n0 ≤ b4 := Nat.le_trans Z0 (Nat.le_of_eq g4.symm)
  have sz_b4 : h0.size ≤ b4 := Nat.le_trans (Keep.refl h0 []).1 (Nat.le_of_eq g4.symm)
  rw [← g4] at A4 st4
  have Zs5 : n0 ≤ h4.size := Nat.le_trans Z0 E4.1
  have V4 : Arv Z h4 b4 k4 .byte (8 : Int32) [(.int 0), (.int 0), (.int 0), (.int 0), (.int 0), (.int 0), (.int 0), (.int 0)] (.int 0) := (Arv.new A4 (by decide)).pad (pad_rep [] (.int 0) 8)
  subst hSS
  obtain ⟨fs, hr, q1, q2, q3, q4⟩ := X4.leave (v := some (.ref b4)) (fun h => by rw [Bd.returns] at h; cases h)
  refine ⟨_, _, pre3 _ ?_, q1, q2, _, _, rfl, ?_, ⟨_, rfl⟩, q3, q4.mono (by decide) (by decide)⟩
  · refine st4 _ ?_
    jvm_step X4.here [X4.here.top, hx, (hb hby d23_6), X4.method', Bd.returns, Value.isRef, FieldType.isReference]
    first | (intro acts; rw [hr _ acts rfl rfl rfl]) | rw [hr _ _ rfl rfl rfl]
    exact Steps.refl _
  · show Q_nbf4 Z  h0 n0 _ T4.heap _
    rw [e4]
    have f6 := ((Keep.refl h0 []).ext E4)
    exact ⟨b4, _, rfl, N1, f6, g_b4, sz_b4, V4⟩
theorem ef_rm_tb4 (m : MethodId) (x0 : Addr) : entryFrame m #[(.ref x0), (.int 0), (.int 4)] 5 = mkF m 0 #[.val (.ref x0), .val (.int 0), .val (.int 4), .unset, .unset] [] := by first | (simp [entryFrame, mkF, argsToLocals, Value.category]; done) | rfl
def Q_tb4 (Z : State) (oc : Addr) (vcs : Int32) (vf : Value) (kC : ClassId) (c0 : Int32) (c1 : Int32) (c2 : Int32) (c3 : Int32) (h0 : Heap) (n0 : Nat) (v : Option Value) (h : Heap) (L : List Loc) : Prop := ∃ (ob : Addr) (kb : ClassId) (lo0 hi0 lo1 hi1 lo2 hi2 lo3 hi3 : Int32), v = some (.ref ob) ∧ Fr n0 L ∧ Keep h0 h [] ∧ n0 ≤ ob ∧ h0.size ≤ ob ∧ Arv Z h ob kb .byte (8 : Int32) [(.int lo0), (.int hi0), (.int lo1), (.int hi1), (.int lo2), (.int hi2), (.int lo3), (.int hi3)] (.int 0) ∧ lo0.toInt % 256 = c0.toInt % 256 ∧ hi0.toInt % 256 = c0.toInt / 256 ∧ lo1.toInt % 256 = c1.toInt % 256 ∧ hi1.toInt % 256 = c1.toInt / 256 ∧ lo2.toInt % 256 = c2.toInt % 256 ∧ hi2.toInt % 256 = c2.toInt / 256 ∧ lo3.toInt % 256 = c3.toInt % 256 ∧ hi3.toInt % 256 = c3.toInt / 256
theorem rm_tb4 (l : Launch) (Z : State) (a0 : Array Value) (hw : ∀ d ∈ tables_1, d.before a0 Z = true) (ws : List Jvm.Cond) (oc : Addr) (vcs : Int32) (vf : Value) (kC : ClassId) (c0 : Int32) (c1 : Int32) (c2 : Int32) (c3 : Int32) (h0 : Heap) (n0 : Nat) (Z0 : n0 ≤ h0.size) (Os : own_st Z h0 vcs vf) (Vc : Arv Z h0 oc kC .char (4 : Int32) [(.int c0), (.int c1), (.int c2), (.int c3)] (.int 0)) (uc0 : 0 ≤ c0.toInt) (uc1 : 0 ≤ c1.toInt) (uc2 : 0 ≤ c2.toInt) (uc3 : 0 ≤ c3.toInt) (vc0 : c0.toInt < 65536) (vc1 : c1.toInt < 65536) (vc2 : c2.toInt < 65536) (vc3 : c3.toInt < 65536) :
    MetFree l yn26 (head1 (Jvm.Cond.code yn26 kc26 5 (some (.array .byte)) :: ws) ⟨2, 1, 8, 24⟩) (fun a U => a = #[(.ref oc), (.int 0), (.int 4)] ∧ Z.Warmed39 U.vm ∧ U.heap = h0) (fun _ _ _ _ _ => True) (fun _ U o U' => ∃ v L, o = .returned v ∧ Q_tb4 Z oc vcs vf kC c0 c1 c2 c3 h0 n0 v U'.heap L ∧ FrameEnd U o U' L 1 8) := by
  refine MetFree.of_bodySF (plainFor_of_name pn_3) hisR ?_
  intro p e s m args below meth c s₁ Bd hml0 hP hK
  obtain ⟨rfl, hZ, hh⟩ := hP
  have hx := Bd.exec
  have hby := Bd.bytes
  have hml : c.maxLocals = 5 := hml0
  have hown : s.vm.findClass "java/lang/StringUTF16" = some m.cls := findClass_of_methodNamed Bd.named
  have hnm := (name_of_methodNamed Bd.named Bd.method).1
  have X0 : Stand p l e ⟨2, 1, 8, 24⟩ s m #[(.ref oc), (.int 0), (.int 4)] below meth c s₁ [] 0 0 := Stand.of_body Bd
  have e0 : s₁.heap = h0 := by rw [← hh, Bd.state]; rfl
  have N0 := Fr.nil n0
  obtain ⟨SS, hSS⟩ : ∃ S, S = s₁.setTop (entryFrame m #[(.ref oc), (.int 0), (.int 4)] 5) := ⟨_, rfl⟩
  have pre0 : oP p e below (s₁.setTop (mkF m 0 #[.val (.ref oc), .val (.int 0), .val (.int 4), .unset, .unset] [])) (SS) := by
    rw [hSS]; exact fun t k => castTop (ef_rm_tb4 m oc) k
  obtain ⟨_, _, ⟨T1, L1, k1, n1⟩, -, X1, ⟨Lc1, hQ1, l1, y1, z1⟩, st1⟩ := Jvm.LawKit.callS X0 hx (y := yn24) hown (mvT hZ (ow hw 103 rfl)) (mvT hZ (ow hw 104 rfl)) (mvT hZ (ow hw 39 rfl)) (mvT hZ (ow hw 105 rfl)) (by decide) (backOf (W := 0) (rm_nbf4 l Z a0 hw []  h0 n0 Z0 ) hZ (ow hw 105 rfl) (ow hw 39 rfl) (by decide) (by decide)) (g := (mkF m 1 #[.val (.ref oc), .val (.int 0), .val (.int 4), .unset, .unset] [(.int 4)])) rfl (by rw [hml]; rfl) (argsL := [(.int 4)]) (rest := []) (lenOf pd_14 rfl) rfl (by exact Nat.le_of_eq rfl) (hb hby d22_1) (fun _ _ => ⟨rfl, e0, (by decide : 0 + 1 ≤ _), (by decide : 0 + 8 ≤ _)⟩)
  dsimp only [Pt.U, Pt.locs, Pt.cells, Pt.slots] at X1 l1 y1 z1 st1 hQ1
  rw [l1, y1, z1] at X1
  obtain ⟨ob, kb, rfl, N1q, K1, gb, szb, Vb1⟩ := hQ1
  have N1 := Fr.app N0 N1q
  have Zs2 : n0 ≤ T1.heap.size := Nat.le_trans Z0 K1.1
  have ne_oc_ob : oc ≠ ob := Nat.ne_of_lt (Nat.lt_of_lt_of_le Vc.lt szb)
  have sz_ob : h0.size ≤ ob := Nat.le_trans (Keep.refl h0 []).1 szb
  have hc11_3 : (0 : Int) < (4 : Int) := by decide
  have f4 := (Vc.keep K1 nin0)
  obtain ⟨cl5, Ar5, q5, S5, M5, H5, G5⟩ := id f4
  have hin5 : ¬ ((0 : Int32) < 0 ∨ cl5.slots.size ≤ ((0 : Int32)).toNatClampNeg) := inb_of S5 ⟨by decide, by decide⟩
  have hat5 : cl5.slots[((0 : Int32)).toNatClampNeg]? = some (.int c0) := Has.at H5 hin5 rfl
  have os7 := (own_st_keep Os K1 ns0)
  obtain ⟨_, _, ⟨T6, L6, k6, n6⟩, -, X6, ⟨Lc6, hQ6, l6, y6, z6⟩, st6⟩ := Jvm.LawKit.callS X1 hx (y := yn25) hown (mvT hZ (ow hw 110 rfl)) (mvT hZ (ow hw 111 rfl)) (mvT hZ (ow hw 39 rfl)) (mvT hZ (ow hw 112 rfl)) (by decide) (backOf (W := 0) (rm_pc l Z a0 hw [] ob (0 : Int32) c0 vcs vf kb (8 : Int32) [(.int 0), (.int 0), (.int 0), (.int 0), (.int 0), (.int 0), (.int 0), (.int 0)] 0 T1.heap n0 Zs2 os7 Vb1 gb (by decide) (by decide) (by decide) (Nat.le_of_ble_eq_true rfl) uc0 vc0) hZ (ow hw 112 rfl) (ow hw 39 rfl) (by decide) (by decide)) (g := (mkF m 20 #[.val (.ref oc), .val (.int 0), .val (.int 4), .val (.ref ob), .val (.int 0)] [(.int c0), (.int 0), (.ref ob)])) rfl (by rw [hml]; rfl) (argsL := [(.ref ob), (.int 0), (.int c0)]) (rest := []) (lenOf pd_15 rfl) rfl (by exact Nat.le_of_eq rfl) (hb hby d22_20) (fun _ _ => ⟨rfl, rfl, (by decide : 1 + 0 ≤ _), (by decide : 8 + 0 ≤ _)⟩)
  dsimp only [Pt.U, Pt.locs, Pt.cells, Pt.slots] at X6 l6 y6 z6 st6 hQ6
  rw [l6, y6, z6] at X6
  obtain ⟨lo0, hi0, rfl, N6q, K6, Vb6, ql0, qh0⟩ := hQ6
  have N6 := Fr.app N1 N6q
  have Zs8 : n0 ≤ T6.heap.size := Nat.le_trans Zs2 K6.1
  have Vb6 : Arv Z T6.heap ob kb .byte (8 : Int32) [(.int lo0), (.int hi0), (.int 0), (.int 0), (.int 0), (.int 0), (.int 0), (.int 0)] (.int 0) := Vb6
  have hc11_9 : (1 : Int) < (4 : Int) := by decide
  have f10 := (f4.keep K6 (ninS ne_oc_ob nin0))
  obtain ⟨cl11, Ar11, q11, S11, M11, H11, G11⟩ := id f10
  have hin11 : ¬ ((1 : Int32) < 0 ∨ cl11.slots.size ≤ ((1 : Int32)).toNatClampNeg) := inb_of S11 ⟨by decide, by decide⟩
  have hat11 : cl11.slots[((1 : Int32)).toNatClampNeg]? = some (.int c1) := Has.at H11 hin11 rfl
  have os13 := (own_st_keep os7 K6 (nsS Vb1.nostat ns0))
  obtain ⟨_, _, ⟨T12, L12, k12, n12⟩, -, X12, ⟨Lc12, hQ12, l12, y12, z12⟩, st12⟩ := Jvm.LawKit.callS X6 hx (y := yn25) hown (mvT hZ (ow hw 110 rfl)) (mvT hZ (ow hw 111 rfl)) (mvT hZ (ow hw 39 rfl)) (mvT hZ (ow hw 112 rfl)) (by decide) (backOf (W := 0) (rm_pc l Z a0 hw [] ob (1 : Int32) c1 vcs vf kb (8 : Int32) [(.int lo0), (.int hi0), (.int 0), (.int 0), (.int 0), (.int 0), (.int 0), (.int 0)] 1 T6.heap n0 Zs8 os13 Vb6 gb (by decide) (by decide) (by decide) (Nat.le_of_ble_eq_true rfl) uc1 vc1) hZ (ow hw 112 rfl) (ow hw 39 rfl) (by decide) (by decide)) (g := (mkF m 20 #[.val (.ref oc), .val (.int 1), .val (.int 4), .val (.ref ob), .val (.int 1)] [(.int c1), (.int 1), (.ref ob)])) rfl (by rw [hml]; rfl) (argsL := [(.ref ob), (.int 1), (.int c1)]) (rest := []) (lenOf pd_15 rfl) rfl (by exact Nat.le_of_eq rfl) (hb hby d22_20) (fun _ _ => ⟨rfl, rfl, (by decide : 1 + 0 ≤ _), (by decide : 8 + 0 ≤ _)⟩)
  dsimp only [Pt.U, Pt.locs, Pt.cells, Pt.slots] at X12 l12 y12 z12 st12 hQ12
  rw [l12, y12, z12] at X12
  obtain ⟨lo1, hi1, rfl, N12q, K12, Vb12, ql1, qh1⟩ := hQ12
  have N12 := Fr.app N6 N12q
  have Zs14 : n0 ≤ T12.heap.size := Nat.le_trans Zs8 K12.1
  have Vb12 : Arv Z T12.heap ob kb .byte (8 : Int32) [(.int lo0), (.int hi0), (.int lo1), (.int hi1), (.int 0), (.int 0), (.int 0), (.int 0)] (.int 0) := Vb12
  have hc11_15 : (2 : Int) < (4 : Int) := by decide
  have f16 := (f10.keep K12 (ninS ne_oc_ob nin0))
  obtain ⟨cl17, Ar17, q17, S17, M17, H17, G17⟩ := id f16
  have hin17 : ¬ ((2 : Int32) < 0 ∨ cl17.slots.size ≤ ((2 : Int32)).toNatClampNeg) := inb_of S17 ⟨by decide, by decide⟩
  have hat17 : cl17.slots[((2 : Int32)).toNatClampNeg]? = some (.int c2) := Has.at H17 hin17 rfl
  have os19 := (own_st_keep os13 K12 (nsS Vb6.nostat ns0))
  obtain ⟨_, _, ⟨T18, L18, k18, n18⟩, -, X18, ⟨Lc18, hQ18, l18, y18, z18⟩, st18⟩ := Jvm.LawKit.callS X12 hx (y := yn25) hown (mvT hZ (ow hw 110 rfl)) (mvT hZ (ow hw 111 rfl)) (mvT hZ (ow hw 39 rfl)) (mvT hZ (ow hw 112 rfl)) (by decide) (backOf (W := 0) (rm_pc l Z a0 hw [] ob (2 : Int32) c2 vcs vf kb (8 : Int32) [(.int lo0), (.int hi0), (.int lo1), (.int hi1), (.int 0), (.int 0), (.int 0), (.int 0)] 2 T12.heap n0 Zs14 os19 Vb12 gb (by decide) (by decide) (by decide) (Nat.le_of_ble_eq_true rfl) uc2 vc2) hZ (ow hw 112 rfl) (ow hw 39 rfl) (by decide) (by decide)) (g := (mkF m 20 #[.val (.ref oc), .val (.int 2), .val (.int 4), .val (.ref ob), .val (.int 2)] [(.int c2), (.int 2), (.ref ob)])) rfl (by rw [hml]; rfl) (argsL := [(.ref ob), (.int 2), (.int c2)]) (rest := []) (lenOf pd_15 rfl) rfl (by exact Nat.le_of_eq rfl) (hb hby d22_20) (fun _ _ => ⟨rfl, rfl, (by decide : 1 + 0 ≤ _), (by decide : 8 + 0 ≤ _)⟩)
  dsimp only [Pt.U, Pt.locs, Pt.cells, Pt.slots] at X18 l18 y18 z18 st18 hQ18
  rw [l18, y18, z18] at X18
  obtain ⟨lo2, hi2, rfl, N18q, K18, Vb18, ql2, qh2⟩ := hQ18
  have N18 := Fr.app N12 N18q
  have Zs20 : n0 ≤ T18.heap.size := Nat.le_trans Zs14 K18.1
  have Vb18 : Arv Z T18.heap ob kb .byte (8 : Int32) [(.int lo0), (.int hi0), (.int lo1), (.int hi1), (.int lo2), (.int hi2), (.int 0), (.int 0)] (.int 0) := Vb18
  have hc11_21 : (3 : Int) < (4 : Int) := by decide
  have f22 := (f16.keep K18 (ninS ne_oc_ob nin0))
  obtain ⟨cl23, Ar23, q23, S23, M23, H23, G23⟩ := id f22
  have hin23 : ¬ ((3 : Int32) < 0 ∨ cl23.slots.size ≤ ((3 : Int32)).toNatClampNeg) := inb_of S23 ⟨by decide, by decide⟩
  have hat23 : cl23.slots[((3 : Int32)).toNatClampNeg]? = some (.int c3) := Has.at H23 hin23 rfl
  have os25 := (own_st_keep os19 K18 (nsS Vb12.nostat ns0))
  obtain ⟨_, _, ⟨T24, L24, k24, n24⟩, -, X24, ⟨Lc24, hQ24, l24, y24, z24⟩, st24⟩ := Jvm.LawKit.callS X18 hx (y := yn25) hown (mvT hZ (ow hw 110 rfl)) (mvT hZ (ow hw 111 rfl)) (mvT hZ (ow hw 39 rfl)) (mvT hZ (ow hw 112 rfl)) (by decide) (backOf (W := 0) (rm_pc l Z a0 hw [] ob (3 : Int32) c3 vcs vf kb (8 : Int32) [(.int lo0), (.int hi0), (.int lo1), (.int hi1), (.int lo2), (.int hi2), (.int 0), (.int 0)] 3 T18.heap n0 Zs20 os25 Vb18 gb (by decide) (by decide) (by decide) (Nat.le_of_ble_eq_true rfl) uc3 vc3) hZ (ow hw 112 rfl) (ow hw 39 rfl) (by decide) (by decide)) (g := (mkF m 20 #[.val (.ref oc), .val (.int 3), .val (.int 4), .val (.ref ob), .val (.int 3)] [(.int c3), (.int 3), (.ref ob)])) rfl (by rw [hml]; rfl) (argsL := [(.ref ob), (.int 3), (.int c3)]) (rest := []) (lenOf pd_15 rfl) rfl (by exact Nat.le_of_eq rfl) (hb hby d22_20) (fun _ _ => ⟨rfl, rfl, (by decide : 1 + 0 ≤ _), (by decide : 8 + 0 ≤ _)⟩)
  dsimp only [Pt.U, Pt.locs, Pt.cells, Pt.slots] at X24 l24 y24 z24 st24 hQ24
  rw [l24, y24, z24] at X24
  obtain ⟨lo3, hi3, rfl, N24q, K24, Vb24, ql3, qh3⟩ := hQ24
  have N24 := Fr.app N18 N24q
  have Zs26 : n0 ≤ T24.heap.size := Nat.le_trans Zs20 K24.1
  have Vb24 : Arv Z T24.heap ob kb .byte (8 : Int32) [(.int lo0), (.int hi0), (.int lo1), (.int hi1), (.int lo2), (.int hi2), (.int lo3), (.int hi3)] (.int 0) := Vb24
  have hc11_27 : ¬ ((4 : Int) < (4 : Int)) := by decide
  subst hSS
  obtain ⟨fs, hr, q1, q2, q3, q4⟩ := X24.leave (v := some (.ref ob)) (fun h => by rw [Bd.returns] at h; cases h)
  refine ⟨_, _, pre0 _ ?_, q1, q2, _, _, rfl, ?_, ⟨_, rfl⟩, q3, q4.mono (by decide) (by decide)⟩
  · refine XS.iloadN X0.here hx rfl (hb hby d22_0) rfl ?_
    refine st1 _ ?_
    refine XS.astoreN X1.here hx rfl (hb hby d22_4) rfl rfl (l' := #[.val (.ref oc), .val (.int 0), .val (.int 4), .val (.ref ob), .unset]) rfl ?_
    refine XS.iconst X1.here hx rfl (hb hby d22_5) ?_
    refine XS.istore X1.here hx rfl (hb hby d22_6) rfl (l' := #[.val (.ref oc), .val (.int 0), .val (.int 4), .val (.ref ob), .val (.int 0)]) rfl ?_
    refine XS.iload X1.here hx rfl (hb hby d22_8) rfl ?_
    refine XS.iloadN X1.here hx rfl (hb hby d22_10) rfl ?_
    refine XS.icmpNo X1.here hx rfl (hb hby d22_11) rfl (own_tlt (a := (0 : Int32)) (b := (4 : Int32)) (by decide) (by decide) hc11_3).2.1 ?_
    refine XS.aloadN X1.here hx rfl (hb hby d22_14) rfl rfl ?_
    refine XS.iload X1.here hx rfl (hb hby d22_15) rfl ?_
    refine XS.aloadN X1.here hx rfl (hb hby d22_17) rfl rfl ?_
    refine XS.iloadN X1.here hx rfl (hb hby d22_18) rfl ?_
    refine X1.caload hx (j := (0 : Int32)) (v := (.int c0)) Ar5.1 (State.isArrayOf_alike hZ.alike Ar5.2.1) Ar5.2.2 hin5 hat5 (g := (mkF m 19 #[.val (.ref oc), .val (.int 0), .val (.int 4), .val (.ref ob), .val (.int 0)] [(.int 0), (.ref oc), (.int 0), (.ref ob)])) rfl rfl (hb hby d22_19) _ ?_
    refine st6 _ ?_
    refine XS.iinc X6.here hx rfl (hb hby d22_23) rfl (l' := #[.val (.ref oc), .val (.int 1), .val (.int 4), .val (.ref ob), .val (.int 0)]) rfl ?_
    refine XS.iinc X6.here hx rfl (hb hby d22_26) rfl (l' := #[.val (.ref oc), .val (.int 1), .val (.int 4), .val (.ref ob), .val (.int 1)]) rfl ?_
    refine XS.goto X6.here hx rfl (pc0 := 29) (pc' := 8) rfl (hb hby d22_29) (by decide) (by decide) ?_
    refine XS.iload X6.here hx rfl (hb hby d22_8) rfl ?_
    refine XS.iloadN X6.here hx rfl (hb hby d22_10) rfl ?_
    show Steps p.tables e below (T6.setTop (mkF m 11 #[.val (.ref oc), .val (.int 1), .val (.int 4), .val (.ref ob), .val (.int 1)] [(.int 4), (.int 1)])) _
    refine XS.icmpNo X6.here hx rfl (hb hby d22_11) rfl (own_tlt (a := (1 : Int32)) (b := (4 : Int32)) (by decide) (by decide) hc11_9).2.1 ?_
    refine XS.aloadN X6.here hx rfl (hb hby d22_14) rfl rfl ?_
    refine XS.iload X6.here hx rfl (hb hby d22_15) rfl ?_
    refine XS.aloadN X6.here hx rfl (hb hby d22_17) rfl rfl ?_
    refine XS.iloadN X6.here hx rfl (hb hby d22_18) rfl ?_
    refine X6.caload hx (j := (1 : Int32)) (v := (.int c1)) Ar11.1 (State.isArrayOf_alike hZ.alike Ar11.2.1) Ar11.2.2 hin11 hat11 (g := (mkF m 19 #[.val (.ref oc), .val (.int 1), .val (.int 4), .val (.ref ob), .val (.int 1)] [(.int 1), (.ref oc), (.int 1), (.ref ob)])) rfl rfl (hb hby d22_19) _ ?_
    refine st12 _ ?_
    refine XS.iinc X12.here hx rfl (hb hby d22_23) rfl (l' := #[.val (.ref oc), .val (.int 2), .val (.int 4), .val (.ref ob), .val (.int 1)]) rfl ?_
    refine XS.iinc X12.here hx rfl (hb hby d22_26) rfl (l' := #[.val (.ref oc), .val (.int 2), .val (.int 4), .val (.ref ob), .val (.int 2)]) rfl ?_
    refine XS.goto X12.here hx rfl (pc0 := 29) (pc' := 8) rfl (hb hby d22_29) (by decide) (by decide) ?_
    refine XS.iload X12.here hx rfl (hb hby d22_8) rfl ?_
    refine XS.iloadN X12.here hx rfl (hb hby d22_10) rfl ?_
    refine XS.icmpNo X12.here hx rfl (hb hby d22_11) rfl (own_tlt (a := (2 : Int32)) (b := (4 : Int32)) (by decide) (by decide) hc11_15).2.1 ?_
    refine XS.aloadN X12.here hx rfl (hb hby d22_14) rfl rfl ?_
    refine XS.iload X12.here hx rfl (hb hby d22_15) rfl ?_
    refine XS.aloadN X12.here hx rfl (hb hby d22_17) rfl rfl ?_
    refine XS.iloadN X12.here hx rfl (hb hby d22_18) rfl ?_
    refine X12.caload hx (j := (2 : Int32)) (v := (.int c2)) Ar17.1 (State.isArrayOf_alike hZ.alike Ar17.2.1) Ar17.2.2 hin17 hat17 (g := (mkF m 19 #[.val (.ref oc), .val (.int 2), .val (.int 4), .val (.ref ob), .val (.int 2)] [(.int 2), (.ref oc), (.int 2), (.ref ob)])) rfl rfl (hb hby d22_19) _ ?_
    refine st18 _ ?_
    refine XS.iinc X18.here hx rfl (hb hby d22_23) rfl (l' := #[.val (.ref oc), .val (.int 3), .val (.int 4), .val (.ref ob), .val (.int 2)]) rfl ?_
    show Steps p.tables e below (T18.setTop (mkF m 26 #[.val (.ref oc), .val (.int 3), .val (.int 4), .val (.ref ob), .val (.int 2)] [])) _
    refine XS.iinc X18.here hx rfl (hb hby d22_26) rfl (l' := #[.val (.ref oc), .val (.int 3), .val (.int 4), .val (.ref ob), .val (.int 3)]) rfl ?_
    refine XS.goto X18.here hx rfl (pc0 := 29) (pc' := 8) rfl (hb hby d22_29) (by decide) (by decide) ?_
    refine XS.iload X18.here hx rfl (hb hby d22_8) rfl ?_
    refine XS.iloadN X18.here hx rfl (hb hby d22_10) rfl ?_
    refine XS.icmpNo X18.here hx rfl (hb hby d22_11) rfl (own_tlt (a := (3 : Int32)) (b := (4 : Int32)) (by decide) (by decide) hc11_21).2.1 ?_
    refine XS.aloadN X18.here hx rfl (hb hby d22_14) rfl rfl ?_
    refine XS.iload X18.here hx rfl (hb hby d22_15) rfl ?_
    refine XS.aloadN X18.here hx rfl (hb hby d22_17) rfl rfl ?_
    refine XS.iloadN X18.here hx rfl (hb hby d22_18) rfl ?_
    refine X18.caload hx (j := (3 : Int32)) (v := (.int c3)) Ar23.1 (State.isArrayOf_alike hZ.alike Ar23.2.1) Ar23.2.2 hin23 hat23 (g := (mkF m 19 #[.val (.ref oc), .val (.int 3), .val (.int 4), .val (.ref ob), .val (.int 3)] [(.int 3), (.ref oc), (.int 3), (.ref ob)])) rfl rfl (hb hby d22_19) _ ?_
    refine st24 _ ?_
    refine XS.iinc X24.here hx rfl (hb hby d22_23) rfl (l' := #[.val (.ref oc), .val (.int 4), .val (.int 4), .val (.ref ob), .val (.int 3)]) rfl ?_
    refine XS.iinc X24.here hx rfl (hb hby d22_26) rfl (l' := #[.val (.ref oc), .val (.int 4), .val (.int 4), .val (.ref ob), .val (.int 4)]) rfl ?_
    refine XS.goto X24.here hx rfl (pc0 := 29) (pc' := 8) rfl (hb hby d22_29) (by decide) (by decide) ?_
    refine XS.iload X24.here hx rfl (hb hby d22_8) rfl ?_
    refine XS.iloadN X24.here hx rfl (hb hby d22_10) rfl ?_
    refine XS.icmpYes X24.here hx rfl (pc0 := 11) (pc' := 32) rfl (hb hby d22_11) rfl (own_flt (a := (4 : Int32)) (b := (4 : Int32)) (by decide) (by decide) hc11_27).2.1 (by decide) (by decide) ?_
    refine XS.aloadN X24.here hx rfl (hb hby d22_32) rfl rfl ?_
    jvm_step X24.here [X24.here.top, hx, (hb hby d22_33), X24.method', Bd.returns, Value.isRef, FieldType.isReference]
    first | (intro acts; rw [hr _ acts rfl rfl rfl]) | rw [hr _ _ rfl rfl rfl]
    exact Steps.refl _
  · show Q_tb4 Z _ _ _ _ _ _ _ _ h0 n0 _ T24.heap _
    have f28 := ((((((Keep.refl h0 []).trans K1 all0).trans K6 (allS (P := fun x => x ∈ [] ∨ h0.size ≤ x) (Or.inr sz_ob) all0)).trans K12 (allS (P := fun x => x ∈ [] ∨ h0.size ≤ x) (Or.inr sz_ob) all0)).trans K18 (allS (P := fun x => x ∈ [] ∨ h0.size ≤ x) (Or.inr sz_ob) all0)).trans K24 (allS (P := fun x => x ∈ [] ∨ h0.size ≤ x) (Or.inr sz_ob) all0))
    exact ⟨ob, kb, lo0, hi0, lo1, hi1, lo2, hi2, lo3, hi3, rfl, N24, f28, gb, sz_ob, Vb24, ql0, qh0, ql1, qh1, ql2, qh2, ql3, qh3⟩
theorem ef_rm_cq4 (m : MethodId) (x0 : Addr) (x2 : Addr) : entryFrame m #[(.ref x0), (.int 0), (.ref x2), (.int 0), (.int 4)] 7 = mkF m 0 #[.val (.ref x0), .val (.int 0), .val (.ref x2), .val (.int 0), .val (.int 4), .unset, .unset] [] := by first | (simp [entryFrame, mkF, argsToLocals, Value.category]; done) | rfl
def Q_cq4 (Z : State) (oc : Addr) (ob : Addr) (kC : ClassId) (c0 : Int32) (c1 : Int32) (c2 : Int32) (c3 : Int32) (kb : ClassId) (h0 : Heap) (n0 : Nat) (v : Option Value) (h : Heap) (L : List Loc) : Prop := Fr n0 L ∧ Keep h0 h [ob] ∧ ((v = some (.int 4) ∧ (c0.toInt ≤ 255 ∧ c1.toInt ≤ 255 ∧ c2.toInt ≤ 255 ∧ c3.toInt ≤ 255) ∧ ∃ bb0 bb1 bb2 bb3 : Int32, Arv Z h ob kb .byte (4 : Int32) [(.int bb0), (.int bb1), (.int bb2), (.int bb3)] (.int 0) ∧ bb0.toInt % 256 = c0.toInt ∧ bb1.toInt % 256 = c1.toInt ∧ bb2.toInt % 256 = c2.toInt ∧ bb3.toInt % 256 = c3.toInt) ∨ (v = some (.int 0) ∧ 255 < c0.toInt ∧ ∃ vs, Arv Z h ob kb .byte (4 : Int32) vs (.int 0)) ∨ (v = some (.int 1) ∧ 255 < c1.toInt ∧ ∃ vs, Arv Z h ob kb .byte (4 : Int32) vs (.int 0)) ∨ (v = some (.int 2) ∧ 255 < c2.toInt ∧ ∃ vs, Arv Z h ob kb .byte (4 : Int32) vs (.int 0)) ∨ (v = some (.int 3) ∧ 255 < c3.toInt ∧ ∃ vs, Arv Z h ob kb .byte (4 : Int32) vs (.int 0)))
theorem rm_cq4 (l : Launch) (Z : State) (a0 : Array Value) (hw : ∀ d ∈ tables_1, d.before a0 Z = true) (ws : List Jvm.Cond) (oc : Addr) (ob : Addr) (kC : ClassId) (c0 : Int32) (c1 : Int32) (c2 : Int32) (c3 : Int32) (kb : ClassId) (h0 : Heap) (n0 : Nat) (Z0 : n0 ≤ h0.size) (Vc : Arv Z h0 oc kC .char (4 : Int32) [(.int c0), (.int c1), (.int c2), (.int c3)] (.int 0)) (uc0 : 0 ≤ c0.toInt) (uc1 : 0 ≤ c1.toInt) (uc2 : 0 ≤ c2.toInt) (uc3 : 0 ≤ c3.toInt) (vc0 : c0.toInt < 65536) (vc1 : c1.toInt < 65536) (vc2 : c2.toInt < 65536) (vc3 : c3.toInt < 65536) (Vb : Arv Z h0 ob kb .byte (4 : Int32) [(.int 0), (.int 0), (.int 0), (.int 0)] (.int 0)) (gb : n0 ≤ ob) (ncb : oc ≠ ob) :
    MetFree l yn27 (head1 (Jvm.Cond.code yn27 kc27 7 (some .int) :: ws) ⟨0, 0, 0, 0⟩) (fun a U => a = #[(.ref oc), (.int 0), (.ref ob), (.int 0), (.int 4)] ∧ Z.Warmed39 U.vm ∧ U.heap = h0) (fun _ _ _ _ _ => True) (fun _ U o U' => ∃ v L, o = .returned v ∧ Q_cq4 Z oc ob kC c0 c1 c2 c3 kb h0 n0 v U'.heap L ∧ FrameEnd U o U' L 0 0) := by
  refine MetFree.of_bodySF (plainFor_of_name pn_3) hisR ?_
  intro p e s m args below meth c s₁ Bd hml0 hP hK
  obtain ⟨rfl, hZ, hh⟩ := hP
  have hx := Bd.exec
  have hby := Bd.bytes
  have hml : c.maxLocals = 7 := hml0
  have hown : s.vm.findClass "java/lang/StringUTF16" = some m.cls := findClass_of_methodNamed Bd.named
  have hnm := (name_of_methodNamed Bd.named Bd.method).1
  have X0 : Stand p l e ⟨0, 0, 0, 0⟩ s m #[(.ref oc), (.int 0), (.ref ob), (.int 0), (.int 4)] below meth c s₁ [] 0 0 := Stand.of_body Bd
  have e0 : s₁.heap = h0 := by rw [← hh, Bd.state]; rfl
  have N0 := Fr.nil n0
  obtain ⟨SS, hSS⟩ : ∃ S, S = s₁.setTop (entryFrame m #[(.ref oc), (.int 0), (.ref ob), (.int 0), (.int 4)] 7) := ⟨_, rfl⟩
  have pre0 : oP p e below (s₁.setTop (mkF m 0 #[.val (.ref oc), .val (.int 0), .val (.ref ob), .val (.int 0), .val (.int 4), .unset, .unset] [])) (SS) := by
    rw [hSS]; exact fun t k => castTop (ef_rm_cq4 m oc ob) k
  have hc7_1 : (0 : Int) < (4 : Int) := by decide
  obtain ⟨cl2, Ar2, q2, S2, M2, H2, G2⟩ := id Vc
  have hin2 : ¬ ((0 : Int32) < 0 ∨ cl2.slots.size ≤ ((0 : Int32)).toNatClampNeg) := inb_of S2 ⟨by decide, by decide⟩
  have hat2 : cl2.slots[((0 : Int32)).toNatClampNeg]? = some (.int c0) := Has.at H2 hin2 rfl
  have pre4 : oP p e below (s₁.setTop (mkF m 20 #[.val (.ref oc), .val (.int 0), .val (.ref ob), .val (.int 0), .val (.int 4), .val (.int 0), .val (.int c0)] [(.int 255), (.int c0)])) (SS) := fun t kt => by
    refine pre0 _ ?_
    refine XS.iconst X0.here hx rfl (hb hby d8_0) ?_
    refine XS.istore X0.here hx rfl (hb hby d8_1) rfl (l' := #[.val (.ref oc), .val (.int 0), .val (.ref ob), .val (.int 0), .val (.int 4), .val (.int 0), .unset]) rfl ?_
    refine XS.iload X0.here hx rfl (hb hby d8_3) rfl ?_
    refine XS.iload X0.here hx rfl (hb hby d8_5) rfl ?_
    refine XS.icmpNo X0.here hx rfl (hb hby d8_7) rfl (own_tlt (a := (0 : Int32)) (b := (4 : Int32)) (by decide) (by decide) hc7_1).2.1 ?_
    refine XS.aloadN X0.here hx rfl (hb hby d8_10) rfl rfl ?_
    refine XS.iloadN X0.here hx rfl (hb hby d8_11) rfl ?_
    refine X0.caload hx (j := (0 : Int32)) (v := (.int c0)) (by rw [e0]; exact Ar2.1) (State.isArrayOf_alike hZ.alike Ar2.2.1) Ar2.2.2 hin2 hat2 (g := (mkF m 12 #[.val (.ref oc), .val (.int 0), .val (.ref ob), .val (.int 0), .val (.int 4), .val (.int 0), .unset] [(.int 0), (.ref oc)])) rfl rfl (hb hby d8_12) _ ?_
    refine XS.istore X0.here hx rfl (hb hby d8_13) rfl (l' := #[.val (.ref oc), .val (.int 0), .val (.ref ob), .val (.int 0), .val (.int 4), .val (.int 0), .val (.int c0)]) rfl ?_
    refine XS.iload X0.here hx rfl (hb hby d8_15) rfl ?_
    refine XS.sipush X0.here hx rfl (hb hby d8_17) ?_
    exact kt
  by_cases hc20_3 : (255 : Int) < c0.toInt
  · subst hSS
    obtain ⟨fs, hr, q1, q2, q3, q4⟩ := X0.leave (v := some (.int 0)) (fun h => by rw [Bd.returns] at h; cases h)
    refine ⟨_, _, pre4 _ ?_, q1, q2, _, _, rfl, ?_, ⟨_, rfl⟩, q3, q4.mono (by decide) (by decide)⟩
    · refine XS.icmpNo X0.here hx rfl (hb hby d8_20) rfl (own_tlt (a := (255 : Int32)) (b := c0) (by decide) rfl hc20_3).2.2.2 ?_
      refine XS.iload X0.here hx rfl (hb hby d8_23) rfl ?_
      exact retI X0 hx Bd.returns (hb hby d8_25) hr
    · show Q_cq4 Z _ _ _ _ _ _ _ _ h0 n0 _ s₁.heap _
      rw [e0]
      exact ⟨N0, (Keep.refl h0 [ob]), Or.inr (Or.inl ⟨rfl, by omega, _, Vb⟩)⟩
  · obtain ⟨cl5, Ar5, q5, S5, M5, H5, G5⟩ := id Vb
    have hin5 : ¬ ((0 : Int32) < 0 ∨ cl5.slots.size ≤ ((0 : Int32)).toNatClampNeg) := inb_of S5 ⟨by decide, by decide⟩
    obtain ⟨T6, h6, X6, e6, W6, st6⟩ := stB X0 hx hZ e0 Ar5 (j := (0 : Int32)) hin5 (g := (mkF m 31 #[.val (.ref oc), .val (.int 0), .val (.ref ob), .val (.int 0), .val (.int 4), .val (.int 0), .val (.int c0)] [(.int (c0.toInt8.toInt32)), (.int 0), (.ref ob)])) rfl rfl (hb hby d8_31)
    have N6 := Fr.snoc X6 N0 gb
    have Zs7 : n0 ≤ h6.size := by rw [W6.size]; exact Z0
    have V6 : Arv Z h6 ob kb .byte (4 : Int32) [(.int (nar .byte (c0.toInt8.toInt32))), (.int 0), (.int 0), (.int 0)] (.int 0) := Arv.set Ar5 q5 S5 M5 H5 G5 (fits_nar_byte _) W6 0 rfl (Nat.le_of_ble_eq_true rfl)
    have hc7_8 : (1 : Int) < (4 : Int) := by decide
    have f9 := (Vc.other W6 ncb)
    obtain ⟨cl10, Ar10, q10, S10, M10, H10, G10⟩ := id f9
    have hin10 : ¬ ((1 : Int32) < 0 ∨ cl10.slots.size ≤ ((1 : Int32)).toNatClampNeg) := inb_of S10 ⟨by decide, by decide⟩
    have hat10 : cl10.slots[((1 : Int32)).toNatClampNeg]? = some (.int c1) := Has.at H10 hin10 rfl
    have pre12 : oP p e below (T6.setTop (mkF m 20 #[.val (.ref oc), .val (.int 1), .val (.ref ob), .val (.int 1), .val (.int 4), .val (.int 1), .val (.int c1)] [(.int 255), (.int c1)])) (SS) := fun t kt => by
      refine pre4 _ ?_
      refine XS.icmpYes X0.here hx rfl (pc0 := 20) (pc' := 26) rfl (hb hby d8_20) rfl (own_flt (a := (255 : Int32)) (b := c0) (by decide) rfl hc20_3).2.2.2 (by decide) (by decide) ?_
      refine XS.aloadN X0.here hx rfl (hb hby d8_26) rfl rfl ?_
      refine XS.iloadN X0.here hx rfl (hb hby d8_27) rfl ?_
      refine XS.iload X0.here hx rfl (hb hby d8_28) rfl ?_
      refine XS.i2b X0.here hx rfl (hb hby d8_30) rfl ?_
      refine st6 _ ?_
      refine XS.iinc X6.here hx rfl (hb hby d8_32) rfl (l' := #[.val (.ref oc), .val (.int 1), .val (.ref ob), .val (.int 0), .val (.int 4), .val (.int 0), .val (.int c0)]) rfl ?_
      refine XS.iinc X6.here hx rfl (hb hby d8_35) rfl (l' := #[.val (.ref oc), .val (.int 1), .val (.ref ob), .val (.int 1), .val (.int 4), .val (.int 0), .val (.int c0)]) rfl ?_
      show Steps p.tables e below (T6.setTop (mkF m 38 #[.val (.ref oc), .val (.int 1), .val (.ref ob), .val (.int 1), .val (.int 4), .val (.int 0), .val (.int c0)] [])) _
      refine XS.iinc X6.here hx rfl (hb hby d8_38) rfl (l' := #[.val (.ref oc), .val (.int 1), .val (.ref ob), .val (.int 1), .val (.int 4), .val (.int 1), .val (.int c0)]) rfl ?_
      refine XS.goto X6.here hx rfl (pc0 := 41) (pc' := 3) rfl (hb hby d8_41) (by decide) (by decide) ?_
      refine XS.iload X6.here hx rfl (hb hby d8_3) rfl ?_
      refine XS.iload X6.here hx rfl (hb hby d8_5) rfl ?_
      refine XS.icmpNo X6.here hx rfl (hb hby d8_7) rfl (own_tlt (a := (1 : Int32)) (b := (4 : Int32)) (by decide) (by decide) hc7_8).2.1 ?_
      refine XS.aloadN X6.here hx rfl (hb hby d8_10) rfl rfl ?_
      refine XS.iloadN X6.here hx rfl (hb hby d8_11) rfl ?_
      refine X6.caload hx (j := (1 : Int32)) (v := (.int c1)) (by rw [e6]; exact Ar10.1) (State.isArrayOf_alike hZ.alike Ar10.2.1) Ar10.2.2 hin10 hat10 (g := (mkF m 12 #[.val (.ref oc), .val (.int 1), .val (.ref ob), .val (.int 1), .val (.int 4), .val (.int 1), .val (.int c0)] [(.int 1), (.ref oc)])) rfl rfl (hb hby d8_12) _ ?_
      refine XS.istore X6.here hx rfl (hb hby d8_13) rfl (l' := #[.val (.ref oc), .val (.int 1), .val (.ref ob), .val (.int 1), .val (.int 4), .val (.int 1), .val (.int c1)]) rfl ?_
      refine XS.iload X6.here hx rfl (hb hby d8_15) rfl ?_
      refine XS.sipush X6.here hx rfl (hb hby d8_17) ?_
      exact kt
    by_cases hc20_11 : (255 : Int) < c1.toInt
    · subst hSS
      obtain ⟨fs, hr, q1, q2, q3, q4⟩ := X6.leave (v := some (.int 1)) (fun h => by rw [Bd.returns] at h; cases h)
      refine ⟨_, _, pre12 _ ?_, q1, q2, _, _, rfl, ?_, ⟨_, rfl⟩, q3, q4.mono (by decide) (by decide)⟩
      · refine XS.icmpNo X6.here hx rfl (hb hby d8_20) rfl (own_tlt (a := (255 : Int32)) (b := c1) (by decide) rfl hc20_11).2.2.2 ?_
        refine XS.iload X6.here hx rfl (hb hby d8_23) rfl ?_
        exact retI X6 hx Bd.returns (hb hby d8_25) hr
      · show Q_cq4 Z _ _ _ _ _ _ _ _ h0 n0 _ T6.heap _
        rw [e6]
        have f13 := ((Keep.refl h0 [ob]).wr W6 (Or.inl (List.mem_of_getElem? (i := 0) rfl)))
        exact ⟨N6, f13, Or.inr (Or.inr (Or.inl ⟨rfl, by omega, _, V6⟩))⟩
    · obtain ⟨cl14, Ar14, q14, S14, M14, H14, G14⟩ := id V6
      have hin14 : ¬ ((1 : Int32) < 0 ∨ cl14.slots.size ≤ ((1 : Int32)).toNatClampNeg) := inb_of S14 ⟨by decide, by decide⟩
      obtain ⟨T15, h15, X15, e15, W15, st15⟩ := stB X6 hx hZ e6 Ar14 (j := (1 : Int32)) hin14 (g := (mkF m 31 #[.val (.ref oc), .val (.int 1), .val (.ref ob), .val (.int 1), .val (.int 4), .val (.int 1), .val (.int c1)] [(.int (c1.toInt8.toInt32)), (.int 1), (.ref ob)])) rfl rfl (hb hby d8_31)
      have N15 := Fr.snoc X15 N6 gb
      have Zs16 : n0 ≤ h15.size := by rw [W15.size]; exact Zs7
      have V15 : Arv Z h15 ob kb .byte (4 : Int32) [(.int (nar .byte (c0.toInt8.toInt32))), (.int (nar .byte (c1.toInt8.toInt32))), (.int 0), (.int 0)] (.int 0) := Arv.set Ar14 q14 S14 M14 H14 G14 (fits_nar_byte _) W15 1 rfl (Nat.le_of_ble_eq_true rfl)
      have hc7_17 : (2 : Int) < (4 : Int) := by decide
      have f18 := (f9.other W15 ncb)
      obtain ⟨cl19, Ar19, q19, S19, M19, H19, G19⟩ := id f18
      have hin19 : ¬ ((2 : Int32) < 0 ∨ cl19.slots.size ≤ ((2 : Int32)).toNatClampNeg) := inb_of S19 ⟨by decide, by decide⟩
      have hat19 : cl19.slots[((2 : Int32)).toNatClampNeg]? = some (.int c2) := Has.at H19 hin19 rfl
      have pre21 : oP p e below (T15.setTop (mkF m 20 #[.val (.ref oc), .val (.int 2), .val (.ref ob), .val (.int 2), .val (.int 4), .val (.int 2), .val (.int c2)] [(.int 255), (.int c2)])) (SS) := fun t kt => by
        refine pre12 _ ?_
        refine XS.icmpYes X6.here hx rfl (pc0 := 20) (pc' := 26) rfl (hb hby d8_20) rfl (own_flt (a := (255 : Int32)) (b := c1) (by decide) rfl hc20_11).2.2.2 (by decide) (by decide) ?_
        refine XS.aloadN X6.here hx rfl (hb hby d8_26) rfl rfl ?_
        refine XS.iloadN X6.here hx rfl (hb hby d8_27) rfl ?_
        refine XS.iload X6.here hx rfl (hb hby d8_28) rfl ?_
        refine XS.i2b X6.here hx rfl (hb hby d8_30) rfl ?_
        refine st15 _ ?_
        refine XS.iinc X15.here hx rfl (hb hby d8_32) rfl (l' := #[.val (.ref oc), .val (.int 2), .val (.ref ob), .val (.int 1), .val (.int 4), .val (.int 1), .val (.int c1)]) rfl ?_
        refine XS.iinc X15.here hx rfl (hb hby d8_35) rfl (l' := #[.val (.ref oc), .val (.int 2), .val (.ref ob), .val (.int 2), .val (.int 4), .val (.int 1), .val (.int c1)]) rfl ?_
        refine XS.iinc X15.here hx rfl (hb hby d8_38) rfl (l' := #[.val (.ref oc), .val (.int 2), .val (.ref ob), .val (.int 2), .val (.int 4), .val (.int 2), .val (.int c1)]) rfl ?_
        show Steps p.tables e below (T15.setTop (mkF m 41 #[.val (.ref oc), .val (.int 2), .val (.ref ob), .val (.int 2), .val (.int 4), .val (.int 2), .val (.int c1)] [])) _
        refine XS.goto X15.here hx rfl (pc0 := 41) (pc' := 3) rfl (hb hby d8_41) (by decide) (by decide) ?_
        refine XS.iload X15.here hx rfl (hb hby d8_3) rfl ?_
        refine XS.iload X15.here hx rfl (hb hby d8_5) rfl ?_
        refine XS.icmpNo X15.here hx rfl (hb hby d8_7) rfl (own_tlt (a := (2 : Int32)) (b := (4 : Int32)) (by decide) (by decide) hc7_17).2.1 ?_
        refine XS.aloadN X15.here hx rfl (hb hby d8_10) rfl rfl ?_
        refine XS.iloadN X15.here hx rfl (hb hby d8_11) rfl ?_
        refine X15.caload hx (j := (2 : Int32)) (v := (.int c2)) (by rw [e15]; exact Ar19.1) (State.isArrayOf_alike hZ.alike Ar19.2.1) Ar19.2.2 hin19 hat19 (g := (mkF m 12 #[.val (.ref oc), .val (.int 2), .val (.ref ob), .val (.int 2), .val (.int 4), .val (.int 2), .val (.int c1)] [(.int 2), (.ref oc)])) rfl rfl (hb hby d8_12) _ ?_
        refine XS.istore X15.here hx rfl (hb hby d8_13) rfl (l' := #[.val (.ref oc), .val (.int 2), .val (.ref ob), .val (.int 2), .val (.int 4), .val (.int 2), .val (.int c2)]) rfl ?_
        refine XS.iload X15.here hx rfl (hb hby d8_15) rfl ?_
        refine XS.sipush X15.here hx rfl (hb hby d8_17) ?_
        exact kt
      by_cases hc20_20 : (255 : Int) < c2.toInt
      · subst hSS
        obtain ⟨fs, hr, q1, q2, q3, q4⟩ := X15.leave (v := some (.int 2)) (fun h => by rw [Bd.returns] at h; cases h)
        refine ⟨_, _, pre21 _ ?_, q1, q2, _, _, rfl, ?_, ⟨_, rfl⟩, q3, q4.mono (by decide) (by decide)⟩
        · refine XS.icmpNo X15.here hx rfl (hb hby d8_20) rfl (own_tlt (a := (255 : Int32)) (b := c2) (by decide) rfl hc20_20).2.2.2 ?_
          refine XS.iload X15.here hx rfl (hb hby d8_23) rfl ?_
          exact retI X15 hx Bd.returns (hb hby d8_25) hr
        · show Q_cq4 Z _ _ _ _ _ _ _ _ h0 n0 _ T15.heap _
          rw [e15]
          have f22 := (((Keep.refl h0 [ob]).wr W6 (Or.inl (List.mem_of_getElem? (i := 0) rfl))).wr W15 (Or.inl (List.mem_of_getElem? (i := 0) rfl)))
          exact ⟨N15, f22, Or.inr (Or.inr (Or.inr (Or.inl ⟨rfl, by omega, _, V15⟩)))⟩
      · obtain ⟨cl23, Ar23, q23, S23, M23, H23, G23⟩ := id V15
        have hin23 : ¬ ((2 : Int32) < 0 ∨ cl23.slots.size ≤ ((2 : Int32)).toNatClampNeg) := inb_of S23 ⟨by decide, by decide⟩
        obtain ⟨T24, h24, X24, e24, W24, st24⟩ := stB X15 hx hZ e15 Ar23 (j := (2 : Int32)) hin23 (g := (mkF m 31 #[.val (.ref oc), .val (.int 2), .val (.ref ob), .val (.int 2), .val (.int 4), .val (.int 2), .val (.int c2)] [(.int (c2.toInt8.toInt32)), (.int 2), (.ref ob)])) rfl rfl (hb hby d8_31)
        have N24 := Fr.snoc X24 N15 gb
        have Zs25 : n0 ≤ h24.size := by rw [W24.size]; exact Zs16
        have V24 : Arv Z h24 ob kb .byte (4 : Int32) [(.int (nar .byte (c0.toInt8.toInt32))), (.int (nar .byte (c1.toInt8.toInt32))), (.int (nar .byte (c2.toInt8.toInt32))), (.int 0)] (.int 0) := Arv.set Ar23 q23 S23 M23 H23 G23 (fits_nar_byte _) W24 2 rfl (Nat.le_of_ble_eq_true rfl)
        have hc7_26 : (3 : Int) < (4 : Int) := by decide
        have f27 := (f18.other W24 ncb)
        obtain ⟨cl28, Ar28, q28, S28, M28, H28, G28⟩ := id f27
        have hin28 : ¬ ((3 : Int32) < 0 ∨ cl28.slots.size ≤ ((3 : Int32)).toNatClampNeg) := inb_of S28 ⟨by decide, by decide⟩
        have hat28 : cl28.slots[((3 : Int32)).toNatClampNeg]? = some (.int c3) := Has.at H28 hin28 rfl
        have pre30 : oP p e below (T24.setTop (mkF m 20 #[.val (.ref oc), .val (.int 3), .val (.ref ob), .val (.int 3), .val (.int 4), .val (.int 3), .val (.int c3)] [(.int 255), (.int c3)])) (SS) := fun t kt => by
          refine pre21 _ ?_
          refine XS.icmpYes X15.here hx rfl (pc0 := 20) (pc' := 26) rfl (hb hby d8_20) rfl (own_flt (a := (255 : Int32)) (b := c2) (by decide) rfl hc20_20).2.2.2 (by decide) (by decide) ?_
          refine XS.aloadN X15.here hx rfl (hb hby d8_26) rfl rfl ?_
          refine XS.iloadN X15.here hx rfl (hb hby d8_27) rfl ?_
          refine XS.iload X15.here hx rfl (hb hby d8_28) rfl ?_
          refine XS.i2b X15.here hx rfl (hb hby d8_30) rfl ?_
          refine st24 _ ?_
          refine XS.iinc X24.here hx rfl (hb hby d8_32) rfl (l' := #[.val (.ref oc), .val (.int 3), .val (.ref ob), .val (.int 2), .val (.int 4), .val (.int 2), .val (.int c2)]) rfl ?_
          refine XS.iinc X24.here hx rfl (hb hby d8_35) rfl (l' := #[.val (.ref oc), .val (.int 3), .val (.ref ob), .val (.int 3), .val (.int 4), .val (.int 2), .val (.int c2)]) rfl ?_
          refine XS.iinc X24.here hx rfl (hb hby d8_38) rfl (l' := #[.val (.ref oc), .val (.int 3), .val (.ref ob), .val (.int 3), .val (.int 4), .val (.int 3), .val (.int c2)]) rfl ?_
          refine XS.goto X24.here hx rfl (pc0 := 41) (pc' := 3) rfl (hb hby d8_41) (by decide) (by decide) ?_
          show Steps p.tables e below (T24.setTop (mkF m 3 #[.val (.ref oc), .val (.int 3), .val (.ref ob), .val (.int 3), .val (.int 4), .val (.int 3), .val (.int c2)] [])) _
          refine XS.iload X24.here hx rfl (hb hby d8_3) rfl ?_
          refine XS.iload X24.here hx rfl (hb hby d8_5) rfl ?_
          refine XS.icmpNo X24.here hx rfl (hb hby d8_7) rfl (own_tlt (a := (3 : Int32)) (b := (4 : Int32)) (by decide) (by decide) hc7_26).2.1 ?_
          refine XS.aloadN X24.here hx rfl (hb hby d8_10) rfl rfl ?_
          refine XS.iloadN X24.here hx rfl (hb hby d8_11) rfl ?_
          refine X24.caload hx (j := (3 : Int32)) (v := (.int c3)) (by rw [e24]; exact Ar28.1) (State.isArrayOf_alike hZ.alike Ar28.2.1) Ar28.2.2 hin28 hat28 (g := (mkF m 12 #[.val (.ref oc), .val (.int 3), .val (.ref ob), .val (.int 3), .val (.int 4), .val (.int 3), .val (.int c2)] [(.int 3), (.ref oc)])) rfl rfl (hb hby d8_12) _ ?_
          refine XS.istore X24.here hx rfl (hb hby d8_13) rfl (l' := #[.val (.ref oc), .val (.int 3), .val (.ref ob), .val (.int 3), .val (.int 4), .val (.int 3), .val (.int c3)]) rfl ?_
          refine XS.iload X24.here hx rfl (hb hby d8_15) rfl ?_
          refine XS.sipush X24.here hx rfl (hb hby d8_17) ?_
          exact kt
        by_cases hc20_29 : (255 : Int) < c3.toInt
        · subst hSS
          obtain ⟨fs, hr, q1, q2, q3, q4⟩ := X24.leave (v := some (.int 3)) (fun h => by rw [Bd.returns] at h; cases h)
          refine ⟨_, _, pre30 _ ?_, q1, q2, _, _, rfl, ?_, ⟨_, rfl⟩, q3, q4.mono (by decide) (by decide)⟩
          · refine XS.icmpNo X24.here hx rfl (hb hby d8_20) rfl (own_tlt (a := (255 : Int32)) (b := c3) (by decide) rfl hc20_29).2.2.2 ?_
            refine XS.iload X24.here hx rfl (hb hby d8_23) rfl ?_
            exact retI X24 hx Bd.returns (hb hby d8_25) hr
          · show Q_cq4 Z _ _ _ _ _ _ _ _ h0 n0 _ T24.heap _
            rw [e24]
            have f31 := ((((Keep.refl h0 [ob]).wr W6 (Or.inl (List.mem_of_getElem? (i := 0) rfl))).wr W15 (Or.inl (List.mem_of_getElem? (i := 0) rfl))).wr W24 (Or.inl (List.mem_of_getElem? (i := 0) rfl)))
            exact ⟨N24, f31, Or.inr (Or.inr (Or.inr (Or.inr (⟨rfl, by omega, _, V24⟩))))⟩
        · obtain ⟨cl32, Ar32, q32, S32, M32, H32, G32⟩ := id V24
          have hin32 : ¬ ((3 : Int32) < 0 ∨ cl32.slots.size ≤ ((3 : Int32)).toNatClampNeg) := inb_of S32 ⟨by decide, by decide⟩
          obtain ⟨T33, h33, X33, e33, W33, st33⟩ := stB X24 hx hZ e24 Ar32 (j := (3 : Int32)) hin32 (g := (mkF m 31 #[.val (.ref oc), .val (.int 3), .val (.ref ob), .val (.int 3), .val (.int 4), .val (.int 3), .val (.int c3)] [(.int (c3.toInt8.toInt32)), (.int 3), (.ref ob)])) rfl rfl (hb hby d8_31)
          have N33 := Fr.snoc X33 N24 gb
          have Zs34 : n0 ≤ h33.size := by rw [W33.size]; exact Zs25
          have V33 : Arv Z h33 ob kb .byte (4 : Int32) [(.int (nar .byte (c0.toInt8.toInt32))), (.int (nar .byte (c1.toInt8.toInt32))), (.int (nar .byte (c2.toInt8.toInt32))), (.int (nar .byte (c3.toInt8.toInt32)))] (.int 0) := Arv.set Ar32 q32 S32 M32 H32 G32 (fits_nar_byte _) W33 3 rfl (Nat.le_of_ble_eq_true rfl)
          have hc7_35 : ¬ ((4 : Int) < (4 : Int)) := by decide
          subst hSS
          obtain ⟨fs, hr, q1, q2, q3, q4⟩ := X33.leave (v := some (.int 4)) (fun h => by rw [Bd.returns] at h; cases h)
          refine ⟨_, _, pre30 _ ?_, q1, q2, _, _, rfl, ?_, ⟨_, rfl⟩, q3, q4.mono (by decide) (by decide)⟩
          · refine XS.icmpYes X24.here hx rfl (pc0 := 20) (pc' := 26) rfl (hb hby d8_20) rfl (own_flt (a := (255 : Int32)) (b := c3) (by decide) rfl hc20_29).2.2.2 (by decide) (by decide) ?_
            refine XS.aloadN X24.here hx rfl (hb hby d8_26) rfl rfl ?_
            refine XS.iloadN X24.here hx rfl (hb hby d8_27) rfl ?_
            refine XS.iload X24.here hx rfl (hb hby d8_28) rfl ?_
            refine XS.i2b X24.here hx rfl (hb hby d8_30) rfl ?_
            refine st33 _ ?_
            refine XS.iinc X33.here hx rfl (hb hby d8_32) rfl (l' := #[.val (.ref oc), .val (.int 4), .val (.ref ob), .val (.int 3), .val (.int 4), .val (.int 3), .val (.int c3)]) rfl ?_
            refine XS.iinc X33.here hx rfl (hb hby d8_35) rfl (l' := #[.val (.ref oc), .val (.int 4), .val (.ref ob), .val (.int 4), .val (.int 4), .val (.int 3), .val (.int c3)]) rfl ?_
            refine XS.iinc X33.here hx rfl (hb hby d8_38) rfl (l' := #[.val (.ref oc), .val (.int 4), .val (.ref ob), .val (.int 4), .val (.int 4), .val (.int 4), .val (.int c3)]) rfl ?_
            refine XS.goto X33.here hx rfl (pc0 := 41) (pc' := 3) rfl (hb hby d8_41) (by decide) (by decide) ?_
            refine XS.iload X33.here hx rfl (hb hby d8_3) rfl ?_
            show Steps p.tables e below (T33.setTop (mkF m 5 #[.val (.ref oc), .val (.int 4), .val (.ref ob), .val (.int 4), .val (.int 4), .val (.int 4), .val (.int c3)] [(.int 4)])) _
            refine XS.iload X33.here hx rfl (hb hby d8_5) rfl ?_
            refine XS.icmpYes X33.here hx rfl (pc0 := 7) (pc' := 44) rfl (hb hby d8_7) rfl (own_flt (a := (4 : Int32)) (b := (4 : Int32)) (by decide) (by decide) hc7_35).2.1 (by decide) (by decide) ?_
            refine XS.iload X33.here hx rfl (hb hby d8_44) rfl ?_
            exact retI X33 hx Bd.returns (hb hby d8_46) hr
          · show Q_cq4 Z _ _ _ _ _ _ _ _ h0 n0 _ T33.heap _
            rw [e33]
            have f36 := (((((Keep.refl h0 [ob]).wr W6 (Or.inl (List.mem_of_getElem? (i := 0) rfl))).wr W15 (Or.inl (List.mem_of_getElem? (i := 0) rfl))).wr W24 (Or.inl (List.mem_of_getElem? (i := 0) rfl))).wr W33 (Or.inl (List.mem_of_getElem? (i := 0) rfl)))
            exact ⟨N33, f36, Or.inl ⟨rfl, ⟨by omega, by omega, by omega, by omega⟩, _, _, _, _, V33, own_b2 c0 uc0 (by omega), own_b2 c1 uc1 (by omega), own_b2 c2 uc2 (by omega), own_b2 c3 uc3 (by omega)⟩⟩
theorem ef_rm_cr4 (m : MethodId) (x0 : Addr) : entryFrame m #[(.ref x0), (.int 0), (.int 4)] 6 = mkF m 0 #[.val (.ref x0), .val (.int 0), .val (.int 4), .unset, .unset, .unset] [] := by first | (simp [entryFrame, mkF, argsToLocals, Value.category]; done) | rfl
def Q_cr4 (Z : State) (oc : Addr) (vcs : Int32) (vf : Value) (kC : ClassId) (c0 : Int32) (c1 : Int32) (c2 : Int32) (c3 : Int32) (h0 : Heap) (n0 : Nat) (v : Option Value) (h : Heap) (L : List Loc) : Prop := ∃ (ob : Addr) (kb : ClassId), v = some (.ref ob) ∧ Fr n0 L ∧ Keep h0 h [] ∧ n0 ≤ ob ∧ h0.size ≤ ob ∧ (((c0.toInt ≤ 255 ∧ c1.toInt ≤ 255 ∧ c2.toInt ≤ 255 ∧ c3.toInt ≤ 255) ∧ ∃ bb0 bb1 bb2 bb3 : Int32, Arv Z h ob kb .byte (4 : Int32) [(.int bb0), (.int bb1), (.int bb2), (.int bb3)] (.int 0) ∧ bb0.toInt % 256 = c0.toInt ∧ bb1.toInt % 256 = c1.toInt ∧ bb2.toInt % 256 = c2.toInt ∧ bb3.toInt % 256 = c3.toInt) ∨ (¬ (c0.toInt ≤ 255 ∧ c1.toInt ≤ 255 ∧ c2.toInt ≤ 255 ∧ c3.toInt ≤ 255) ∧ ∃ lo0 hi0 lo1 hi1 lo2 hi2 lo3 hi3 : Int32, Arv Z h ob kb .byte (8 : Int32) [(.int lo0), (.int hi0), (.int lo1), (.int hi1), (.int lo2), (.int hi2), (.int lo3), (.int hi3)] (.int 0) ∧ lo0.toInt % 256 = c0.toInt % 256 ∧ hi0.toInt % 256 = c0.toInt / 256 ∧ lo1.toInt % 256 = c1.toInt % 256 ∧ hi1.toInt % 256 = c1.toInt / 256 ∧ lo2.toInt % 256 = c2.toInt % 256 ∧ hi2.toInt % 256 = c2.toInt / 256 ∧ lo3.toInt % 256 = c3.toInt % 256 ∧ hi3.toInt % 256 = c3.toInt / 256))
theorem rm_cr4 (l : Launch) (Z : State) (a0 : Array Value) (hw : ∀ d ∈ tables_1, d.before a0 Z = true) (ws : List Jvm.Cond) (oc : Addr) (vcs : Int32) (vf : Value) (kC : ClassId) (c0 : Int32) (c1 : Int32) (c2 : Int32) (c3 : Int32) (h0 : Heap) (n0 : Nat) (Z0 : n0 ≤ h0.size) (Os : own_st Z h0 vcs vf) (Vc : Arv Z h0 oc kC .char (4 : Int32) [(.int c0), (.int c1), (.int c2), (.int c3)] (.int 0)) (uc0 : 0 ≤ c0.toInt) (uc1 : 0 ≤ c1.toInt) (uc2 : 0 ≤ c2.toInt) (uc3 : 0 ≤ c3.toInt) (vc0 : c0.toInt < 65536) (vc1 : c1.toInt < 65536) (vc2 : c2.toInt < 65536) (vc3 : c3.toInt < 65536) :
    MetFree l yn28 (head1 (Jvm.Cond.code yn28 kc28 6 (some (.array .byte)) :: ws) ⟨3, 2, 12, 40⟩) (fun a U => a = #[(.ref oc), (.int 0), (.int 4)] ∧ Z.Warmed39 U.vm ∧ U.heap = h0) (fun _ _ _ _ _ => True) (fun _ U o U' => ∃ v L, o = .returned v ∧ Q_cr4 Z oc vcs vf kC c0 c1 c2 c3 h0 n0 v U'.heap L ∧ FrameEnd U o U' L 2 12) := by
  refine MetFree.of_bodySF (plainFor_of_name pn_3) hisR ?_
  intro p e s m args below meth c s₁ Bd hml0 hP hK
  obtain ⟨rfl, hZ, hh⟩ := hP
  have hx := Bd.exec
  have hby := Bd.bytes
  have hml : c.maxLocals = 6 := hml0
  have hown : s.vm.findClass "java/lang/StringUTF16" = some m.cls := findClass_of_methodNamed Bd.named
  have hnm := (name_of_methodNamed Bd.named Bd.method).1
  have X0 : Stand p l e ⟨3, 2, 12, 40⟩ s m #[(.ref oc), (.int 0), (.int 4)] below meth c s₁ [] 0 0 := Stand.of_body Bd
  have e0 : s₁.heap = h0 := by rw [← hh, Bd.state]; rfl
  have N0 := Fr.nil n0
  obtain ⟨SS, hSS⟩ : ∃ S, S = s₁.setTop (entryFrame m #[(.ref oc), (.int 0), (.int 4)] 6) := ⟨_, rfl⟩
  have pre0 : oP p e below (s₁.setTop (mkF m 0 #[.val (.ref oc), .val (.int 0), .val (.int 4), .unset, .unset, .unset] [])) (SS) := by
    rw [hSS]; exact fun t k => castTop (ef_rm_cr4 m oc) k
  obtain ⟨T1, h1, k1, X1, e1, E1, A1, st1⟩ := newP X0 hx hZ (ow hw 20 rfl) e0 (g := (mkF m 1 #[.val (.ref oc), .val (.int 0), .val (.int 4), .unset, .unset, .unset] [(.int 4)])) rfl (hb hby d7_1) rfl (by decide) (cap := 4) (by decide) (by decide) (by decide) (by decide)
  obtain ⟨b1, g1⟩ : ∃ z, z = h0.size := ⟨_, rfl⟩
  have ne_oc_b1 : oc ≠ b1 := Nat.ne_of_lt (Nat.lt_of_lt_of_le Vc.lt (Nat.le_of_eq g1.symm))
  have g_b1 : n0 ≤ b1 := Nat.le_trans Z0 (Nat.le_of_eq g1.symm)
  have sz_b1 : h0.size ≤ b1 := Nat.le_trans (Keep.refl h0 []).1 (Nat.le_of_eq g1.symm)
  rw [← g1] at A1 st1
  have Zs2 : n0 ≤ h1.size := Nat.le_trans Z0 E1.1
  have V1 : Arv Z h1 b1 k1 .byte (4 : Int32) [(.int 0), (.int 0), (.int 0), (.int 0)] (.int 0) := (Arv.new A1 (by decide)).pad (pad_rep [] (.int 0) 4)
  have f4 := (Vc.ext E1)
  obtain ⟨_, _, ⟨T3, L3, k3, n3⟩, -, X3, ⟨Lc3, hQ3, l3, y3, z3⟩, st3⟩ := Jvm.LawKit.callS X1 hx (y := yn27) hown (mvT hZ (ow hw 41 rfl)) (mvT hZ (ow hw 42 rfl)) (mvT hZ (ow hw 39 rfl)) (mvT hZ (ow hw 43 rfl)) (by decide) (backOf (W := 0) (rm_cq4 l Z a0 hw [] oc b1 kC c0 c1 c2 c3 k1 h1 n0 Zs2 f4 uc0 uc1 uc2 uc3 vc0 vc1 vc2 vc3 V1 g_b1 ne_oc_b1) hZ (ow hw 43 rfl) (ow hw 39 rfl) (by decide) (by decide)) (g := (mkF m 9 #[.val (.ref oc), .val (.int 0), .val (.int 4), .val (.ref b1), .unset, .unset] [(.int 4), (.int 0), (.ref b1), (.int 0), (.ref oc)])) rfl (by rw [hml]; rfl) (argsL := [(.ref oc), (.int 0), (.ref b1), (.int 0), (.int 4)]) (rest := []) (lenOf pd_16 rfl) rfl (by exact Nat.le_of_eq rfl) (hb hby d7_9) (fun _ _ => ⟨rfl, e1, (by decide : 1 + 0 ≤ _), (by decide : 4 + 0 ≤ _)⟩)
  dsimp only [Pt.U, Pt.locs, Pt.cells, Pt.slots] at X3 l3 y3 z3 st3 hQ3
  rw [l3, y3, z3] at X3
  obtain ⟨N3q, K3, hO3⟩ := hQ3
  have N3 := Fr.app N0 N3q
  have Zs5 : n0 ≤ T3.heap.size := Nat.le_trans Zs2 K3.1
  rcases hO3 with ⟨rfl, hall, bb0, bb1, bb2, bb3, VbL, qbb0, qbb1, qbb2, qbb3⟩ | ⟨rfl, hbig, vsP, VbP⟩ | ⟨rfl, hbig, vsP, VbP⟩ | ⟨rfl, hbig, vsP, VbP⟩ | ⟨rfl, hbig, vsP, VbP⟩
  · have own_mk4 := True.intro
    have hc17_6 : (4 : Int) = (4 : Int) := by decide
    subst hSS
    obtain ⟨fs, hr, q1, q2, q3, q4⟩ := X3.leave (v := some (.ref b1)) (fun h => by rw [Bd.returns] at h; cases h)
    refine ⟨_, _, pre0 _ ?_, q1, q2, _, _, rfl, ?_, ⟨_, rfl⟩, q3, q4.mono (by decide) (by decide)⟩
    · refine XS.iloadN X0.here hx rfl (hb hby d7_0) rfl ?_
      refine st1 _ ?_
      refine XS.astoreN X1.here hx rfl (hb hby d7_3) rfl rfl (l' := #[.val (.ref oc), .val (.int 0), .val (.int 4), .val (.ref b1), .unset, .unset]) rfl ?_
      refine XS.aloadN X1.here hx rfl (hb hby d7_4) rfl rfl ?_
      refine XS.iloadN X1.here hx rfl (hb hby d7_5) rfl ?_
      refine XS.aloadN X1.here hx rfl (hb hby d7_6) rfl rfl ?_
      refine XS.iconst X1.here hx rfl (hb hby d7_7) ?_
      refine XS.iloadN X1.here hx rfl (hb hby d7_8) rfl ?_
      refine st3 _ ?_
      refine XS.istore X3.here hx rfl (hb hby d7_12) rfl (l' := #[.val (.ref oc), .val (.int 0), .val (.int 4), .val (.ref b1), .val (.int 4), .unset]) rfl ?_
      refine XS.iload X3.here hx rfl (hb hby d7_14) rfl ?_
      refine XS.iloadN X3.here hx rfl (hb hby d7_16) rfl ?_
      refine XS.icmpYes X3.here hx rfl (pc0 := 17) (pc' := 57) rfl (hb hby d7_17) rfl (own_teq (a := (4 : Int32)) (b := (4 : Int32)) (by decide) (by decide) hc17_6).1 (by decide) (by decide) ?_
      refine XS.aloadN X3.here hx rfl (hb hby d7_57) rfl rfl ?_
      jvm_step X3.here [X3.here.top, hx, (hb hby d7_58), X3.method', Bd.returns, Value.isRef, FieldType.isReference]
      first | (intro acts; rw [hr _ acts rfl rfl rfl]) | rw [hr _ _ rfl rfl rfl]
      exact Steps.refl _
    · show Q_cr4 Z _ _ _ _ _ _ _ _ h0 n0 _ T3.heap _
      have f7 := (((Keep.refl h0 []).ext E1).trans K3 (allS (P := fun x => x ∈ [] ∨ h0.size ≤ x) (Or.inr sz_b1) all0))
      exact ⟨b1, _, rfl, N3, f7, g_b1, sz_b1, Or.inl ⟨hall, bb0, bb1, bb2, bb3, VbL, qbb0, qbb1, qbb2, qbb3⟩⟩
  · have own_mk0 := True.intro
    have hc17_8 : ¬ ((0 : Int) = (4 : Int)) := by decide
    have f10 := (f4.keep K3 (ninS ne_oc_b1 nin0))
    have f11 := (((Keep.refl h0 []).ext E1).trans K3 (allS (P := fun x => x ∈ [] ∨ h0.size ≤ x) (Or.inr sz_b1) all0))
    have os12 := (own_st_keep (own_st_ext Os E1) K3 (nsS V1.nostat ns0))
    obtain ⟨_, _, ⟨T9, L9, k9, n9⟩, -, X9, ⟨Lc9, hQ9, l9, y9, z9⟩, st9⟩ := Jvm.LawKit.callS X3 hx (y := yn26) hown (mvT hZ (ow hw 100 rfl)) (mvT hZ (ow hw 101 rfl)) (mvT hZ (ow hw 39 rfl)) (mvT hZ (ow hw 102 rfl)) (by decide) (backOf (W := 0) (rm_tb4 l Z a0 hw [] oc vcs vf kC c0 c1 c2 c3 T3.heap n0 Zs5 os12 f10 uc0 uc1 uc2 uc3 vc0 vc1 vc2 vc3) hZ (ow hw 102 rfl) (ow hw 39 rfl) (by decide) (by decide)) (g := (mkF m 23 #[.val (.ref oc), .val (.int 0), .val (.int 4), .val (.ref b1), .val (.int 0), .unset] [(.int 4), (.int 0), (.ref oc)])) rfl (by rw [hml]; rfl) (argsL := [(.ref oc), (.int 0), (.int 4)]) (rest := []) (lenOf pd_17 rfl) rfl (by exact Nat.le_of_eq rfl) (hb hby d7_23) (fun _ _ => ⟨rfl, rfl, (by decide : 1 + 1 ≤ _), (by decide : 4 + 8 ≤ _)⟩)
    dsimp only [Pt.U, Pt.locs, Pt.cells, Pt.slots] at X9 l9 y9 z9 st9 hQ9
    rw [l9, y9, z9] at X9
    obtain ⟨ou, ku, lo0, hi0, lo1, hi1, lo2, hi2, lo3, hi3, rfl, N9q, K9, gu, szu, Vu9, qlo0, qhi0, qlo1, qhi1, qlo2, qhi2, qlo3, qhi3⟩ := hQ9
    have N9 := Fr.app N3 N9q
    have Zs13 : n0 ≤ T9.heap.size := Nat.le_trans Zs5 K9.1
    have ne_oc_ou : oc ≠ ou := Nat.ne_of_lt (Nat.lt_of_lt_of_le f10.lt szu)
    have ne_b1_ou : b1 ≠ ou := Nat.ne_of_lt (Nat.lt_of_lt_of_le VbP.lt szu)
    have sz_ou : h0.size ≤ ou := Nat.le_trans f11.1 szu
    have os15 := (own_st_keep os12 K9 ns0)
    obtain ⟨_, _, ⟨T14, L14, k14, n14⟩, -, X14, ⟨Lc14, hQ14, l14, y14, z14⟩, st14⟩ := Jvm.LawKit.callS X9 hx (y := yn7) hown (mvT hZ (ow hw 116 rfl)) (mvT hZ (ow hw 117 rfl)) (mvT hZ (ow hw 39 rfl)) (mvT hZ (ow hw 118 rfl)) (by decide) (backOf (W := 0) (rm_gc l Z a0 hw [] ou (0 : Int32) vcs vf ku (8 : Int32) [(.int lo0), (.int hi0), (.int lo1), (.int hi1), (.int lo2), (.int hi2), (.int lo3), (.int hi3)] lo0 hi0 0 T9.heap n0 Zs13 os15 Vu9 (by decide) (by decide) (by decide) rfl rfl) hZ (ow hw 118 rfl) (ow hw 39 rfl) (by decide) (by decide)) (g := (mkF m 32 #[.val (.ref oc), .val (.int 0), .val (.int 4), .val (.ref b1), .val (.int 0), .val (.ref ou)] [(.int 0), (.ref ou)])) rfl (by rw [hml]; rfl) (argsL := [(.ref ou), (.int 0)]) (rest := []) (lenOf pd_5 rfl) rfl (by exact Nat.le_of_eq rfl) (hb hby d7_32) (fun _ _ => ⟨rfl, rfl, (by decide : 2 + 0 ≤ _), (by decide : 12 + 0 ≤ _)⟩)
    dsimp only [Pt.U, Pt.locs, Pt.cells, Pt.slots] at X14 l14 y14 z14 st14 hQ14
    rw [l14, y14, z14] at X14
    obtain ⟨zg, rfl, hzg, N14q, e14⟩ := hQ14
    have N14 := Fr.app N9 N14q
    have hc38_16 : (255 : Int) < zg.toInt := by omega
    subst hSS
    obtain ⟨fs, hr, q1, q2, q3, q4⟩ := X14.leave (v := some (.ref ou)) (fun h => by rw [Bd.returns] at h; cases h)
    refine ⟨_, _, pre0 _ ?_, q1, q2, _, _, rfl, ?_, ⟨_, rfl⟩, q3, q4.mono (by decide) (by decide)⟩
    · refine XS.iloadN X0.here hx rfl (hb hby d7_0) rfl ?_
      refine st1 _ ?_
      refine XS.astoreN X1.here hx rfl (hb hby d7_3) rfl rfl (l' := #[.val (.ref oc), .val (.int 0), .val (.int 4), .val (.ref b1), .unset, .unset]) rfl ?_
      refine XS.aloadN X1.here hx rfl (hb hby d7_4) rfl rfl ?_
      refine XS.iloadN X1.here hx rfl (hb hby d7_5) rfl ?_
      refine XS.aloadN X1.here hx rfl (hb hby d7_6) rfl rfl ?_
      refine XS.iconst X1.here hx rfl (hb hby d7_7) ?_
      refine XS.iloadN X1.here hx rfl (hb hby d7_8) rfl ?_
      refine st3 _ ?_
      refine XS.istore X3.here hx rfl (hb hby d7_12) rfl (l' := #[.val (.ref oc), .val (.int 0), .val (.int 4), .val (.ref b1), .val (.int 0), .unset]) rfl ?_
      refine XS.iload X3.here hx rfl (hb hby d7_14) rfl ?_
      refine XS.iloadN X3.here hx rfl (hb hby d7_16) rfl ?_
      refine XS.icmpNo X3.here hx rfl (hb hby d7_17) rfl (own_feq (a := (0 : Int32)) (b := (4 : Int32)) (by decide) (by decide) hc17_8).1 ?_
      refine XS.aloadN X3.here hx rfl (hb hby d7_20) rfl rfl ?_
      refine XS.iloadN X3.here hx rfl (hb hby d7_21) rfl ?_
      refine XS.iloadN X3.here hx rfl (hb hby d7_22) rfl ?_
      refine st9 _ ?_
      refine XS.astore X9.here hx rfl (hb hby d7_26) rfl rfl (l' := #[.val (.ref oc), .val (.int 0), .val (.int 4), .val (.ref b1), .val (.int 0), .val (.ref ou)]) rfl ?_
      refine XS.aload X9.here hx rfl (hb hby d7_28) rfl rfl ?_
      show Steps p.tables e below (T9.setTop (mkF m 30 #[.val (.ref oc), .val (.int 0), .val (.int 4), .val (.ref b1), .val (.int 0), .val (.ref ou)] [(.ref ou)])) _
      refine XS.iload X9.here hx rfl (hb hby d7_30) rfl ?_
      refine st14 _ ?_
      refine XS.sipush X14.here hx rfl (hb hby d7_35) ?_
      refine XS.icmpYes X14.here hx rfl (pc0 := 38) (pc' := 54) rfl (hb hby d7_38) rfl (own_tlt (a := (255 : Int32)) (b := zg) (by decide) rfl hc38_16).2.2.1 (by decide) (by decide) ?_
      refine XS.aload X14.here hx rfl (hb hby d7_54) rfl rfl ?_
      jvm_step X14.here [X14.here.top, hx, (hb hby d7_56), X14.method', Bd.returns, Value.isRef, FieldType.isReference]
      first | (intro acts; rw [hr _ acts rfl rfl rfl]) | rw [hr _ _ rfl rfl rfl]
      exact Steps.refl _
    · show Q_cr4 Z _ _ _ _ _ _ _ _ h0 n0 _ T14.heap _
      rw [e14]
      have f17 := (f11.trans K9 all0)
      exact ⟨ou, _, rfl, N14, f17, gu, sz_ou, Or.inr ⟨fun q => by omega, lo0, hi0, lo1, hi1, lo2, hi2, lo3, hi3, Vu9, qlo0, qhi0, qlo1, qhi1, qlo2, qhi2, qlo3, qhi3⟩⟩
  · have own_mk1 := True.intro
    have hc17_18 : ¬ ((1 : Int) = (4 : Int)) := by decide
    have f20 := (f4.keep K3 (ninS ne_oc_b1 nin0))
    have f21 := (((Keep.refl h0 []).ext E1).trans K3 (allS (P := fun x => x ∈ [] ∨ h0.size ≤ x) (Or.inr sz_b1) all0))
    have os22 := (own_st_keep (own_st_ext Os E1) K3 (nsS V1.nostat ns0))
    obtain ⟨_, _, ⟨T19, L19, k19, n19⟩, -, X19, ⟨Lc19, hQ19, l19, y19, z19⟩, st19⟩ := Jvm.LawKit.callS X3 hx (y := yn26) hown (mvT hZ (ow hw 100 rfl)) (mvT hZ (ow hw 101 rfl)) (mvT hZ (ow hw 39 rfl)) (mvT hZ (ow hw 102 rfl)) (by decide) (backOf (W := 0) (rm_tb4 l Z a0 hw [] oc vcs vf kC c0 c1 c2 c3 T3.heap n0 Zs5 os22 f20 uc0 uc1 uc2 uc3 vc0 vc1 vc2 vc3) hZ (ow hw 102 rfl) (ow hw 39 rfl) (by decide) (by decide)) (g := (mkF m 23 #[.val (.ref oc), .val (.int 0), .val (.int 4), .val (.ref b1), .val (.int 1), .unset] [(.int 4), (.int 0), (.ref oc)])) rfl (by rw [hml]; rfl) (argsL := [(.ref oc), (.int 0), (.int 4)]) (rest := []) (lenOf pd_17 rfl) rfl (by exact Nat.le_of_eq rfl) (hb hby d7_23) (fun _ _ => ⟨rfl, rfl, (by decide : 1 + 1 ≤ _), (by decide : 4 + 8 ≤ _)⟩)
    dsimp only [Pt.U, Pt.locs, Pt.cells, Pt.slots] at X19 l19 y19 z19 st19 hQ19
    rw [l19, y19, z19] at X19
    obtain ⟨ou, ku, lo0, hi0, lo1, hi1, lo2, hi2, lo3, hi3, rfl, N19q, K19, gu, szu, Vu19, qlo0, qhi0, qlo1, qhi1, qlo2, qhi2, qlo3, qhi3⟩ := hQ19
    have N19 := Fr.app N3 N19q
    have Zs23 : n0 ≤ T19.heap.size := Nat.le_trans Zs5 K19.1
    have ne_oc_ou : oc ≠ ou := Nat.ne_of_lt (Nat.lt_of_lt_of_le f20.lt szu)
    have ne_b1_ou : b1 ≠ ou := Nat.ne_of_lt (Nat.lt_of_lt_of_le VbP.lt szu)
    have sz_ou : h0.size ≤ ou := Nat.le_trans f21.1 szu
    have os25 := (own_st_keep os22 K19 ns0)
    obtain ⟨_, _, ⟨T24, L24, k24, n24⟩, -, X24, ⟨Lc24, hQ24, l24, y24, z24⟩, st24⟩ := Jvm.LawKit.callS X19 hx (y := yn7) hown (mvT hZ (ow hw 116 rfl)) (mvT hZ (ow hw 117 rfl)) (mvT hZ (ow hw 39 rfl)) (mvT hZ (ow hw 118 rfl)) (by decide) (backOf (W := 0) (rm_gc l Z a0 hw [] ou (1 : Int32) vcs vf ku (8 : Int32) [(.int lo0), (.int hi0), (.int lo1), (.int hi1), (.int lo2), (.int hi2), (.int lo3), (.int hi3)] lo1 hi1 1 T19.heap n0 Zs23 os25 Vu19 (by decide) (by decide) (by decide) rfl rfl) hZ (ow hw 118 rfl) (ow hw 39 rfl) (by decide) (by decide)) (g := (mkF m 32 #[.val (.ref oc), .val (.int 0), .val (.int 4), .val (.ref b1), .val (.int 1), .val (.ref ou)] [(.int 1), (.ref ou)])) rfl (by rw [hml]; rfl) (argsL := [(.ref ou), (.int 1)]) (rest := []) (lenOf pd_5 rfl) rfl (by exact Nat.le_of_eq rfl) (hb hby d7_32) (fun _ _ => ⟨rfl, rfl, (by decide : 2 + 0 ≤ _), (by decide : 12 + 0 ≤ _)⟩)
    dsimp only [Pt.U, Pt.locs, Pt.cells, Pt.slots] at X24 l24 y24 z24 st24 hQ24
    rw [l24, y24, z24] at X24
    obtain ⟨zg, rfl, hzg, N24q, e24⟩ := hQ24
    have N24 := Fr.app N19 N24q
    have hc38_26 : (255 : Int) < zg.toInt := by omega
    subst hSS
    obtain ⟨fs, hr, q1, q2, q3, q4⟩ := X24.leave (v := some (.ref ou)) (fun h => by rw [Bd.returns] at h; cases h)
    refine ⟨_, _, pre0 _ ?_, q1, q2, _, _, rfl, ?_, ⟨_, rfl⟩, q3, q4.mono (by decide) (by decide)⟩
    · refine XS.iloadN X0.here hx rfl (hb hby d7_0) rfl ?_
      refine st1 _ ?_
      refine XS.astoreN X1.here hx rfl (hb hby d7_3) rfl rfl (l' := #[.val (.ref oc), .val (.int 0), .val (.int 4), .val (.ref b1), .unset, .unset]) rfl ?_
      refine XS.aloadN X1.here hx rfl (hb hby d7_4) rfl rfl ?_
      refine XS.iloadN X1.here hx rfl (hb hby d7_5) rfl ?_
      refine XS.aloadN X1.here hx rfl (hb hby d7_6) rfl rfl ?_
      refine XS.iconst X1.here hx rfl (hb hby d7_7) ?_
      refine XS.iloadN X1.here hx rfl (hb hby d7_8) rfl ?_
      refine st3 _ ?_
      refine XS.istore X3.here hx rfl (hb hby d7_12) rfl (l' := #[.val (.ref oc), .val (.int 0), .val (.int 4), .val (.ref b1), .val (.int 1), .unset]) rfl ?_
      refine XS.iload X3.here hx rfl (hb hby d7_14) rfl ?_
      refine XS.iloadN X3.here hx rfl (hb hby d7_16) rfl ?_
      refine XS.icmpNo X3.here hx rfl (hb hby d7_17) rfl (own_feq (a := (1 : Int32)) (b := (4 : Int32)) (by decide) (by decide) hc17_18).1 ?_
      refine XS.aloadN X3.here hx rfl (hb hby d7_20) rfl rfl ?_
      refine XS.iloadN X3.here hx rfl (hb hby d7_21) rfl ?_
      refine XS.iloadN X3.here hx rfl (hb hby d7_22) rfl ?_
      refine st19 _ ?_
      refine XS.astore X19.here hx rfl (hb hby d7_26) rfl rfl (l' := #[.val (.ref oc), .val (.int 0), .val (.int 4), .val (.ref b1), .val (.int 1), .val (.ref ou)]) rfl ?_
      refine XS.aload X19.here hx rfl (hb hby d7_28) rfl rfl ?_
      show Steps p.tables e below (T19.setTop (mkF m 30 #[.val (.ref oc), .val (.int 0), .val (.int 4), .val (.ref b1), .val (.int 1), .val (.ref ou)] [(.ref ou)])) _
      refine XS.iload X19.here hx rfl (hb hby d7_30) rfl ?_
      refine st24 _ ?_
      refine XS.sipush X24.here hx rfl (hb hby d7_35) ?_
      refine XS.icmpYes X24.here hx rfl (pc0 := 38) (pc' := 54) rfl (hb hby d7_38) rfl (own_tlt (a := (255 : Int32)) (b := zg) (by decide) rfl hc38_26).2.2.1 (by decide) (by decide) ?_
      refine XS.aload X24.here hx rfl (hb hby d7_54) rfl rfl ?_
      jvm_step X24.here [X24.here.top, hx, (hb hby d7_56), X24.method', Bd.returns, Value.isRef, FieldType.isReference]
      first | (intro acts; rw [hr _ acts rfl rfl rfl]) | rw [hr _ _ rfl rfl rfl]
      exact Steps.refl _
    · show Q_cr4 Z _ _ _ _ _ _ _ _ h0 n0 _ T24.heap _
      rw [e24]
      have f27 := (f21.trans K19 all0)
      exact ⟨ou, _, rfl, N24, f27, gu, sz_ou, Or.inr ⟨fun q => by omega, lo0, hi0, lo1, hi1, lo2, hi2, lo3, hi3, Vu19, qlo0, qhi0, qlo1, qhi1, qlo2, qhi2, qlo3, qhi3⟩⟩
  · have own_mk2 := True.intro
    have hc17_28 : ¬ ((2 : Int) = (4 : Int)) := by decide
    have f30 := (f4.keep K3 (ninS ne_oc_b1 nin0))
    have f31 := (((Keep.refl h0 []).ext E1).trans K3 (allS (P := fun x => x ∈ [] ∨ h0.size ≤ x) (Or.inr sz_b1) all0))
    have os32 := (own_st_keep (own_st_ext Os E1) K3 (nsS V1.nostat ns0))
    obtain ⟨_, _, ⟨T29, L29, k29, n29⟩, -, X29, ⟨Lc29, hQ29, l29, y29, z29⟩, st29⟩ := Jvm.LawKit.callS X3 hx (y := yn26) hown (mvT hZ (ow hw 100 rfl)) (mvT hZ (ow hw 101 rfl)) (mvT hZ (ow hw 39 rfl)) (mvT hZ (ow hw 102 rfl)) (by decide) (backOf (W := 0) (rm_tb4 l Z a0 hw [] oc vcs vf kC c0 c1 c2 c3 T3.heap n0 Zs5 os32 f30 uc0 uc1 uc2 uc3 vc0 vc1 vc2 vc3) hZ (ow hw 102 rfl) (ow hw 39 rfl) (by decide) (by decide)) (g := (mkF m 23 #[.val (.ref oc), .val (.int 0), .val (.int 4), .val (.ref b1), .val (.int 2), .unset] [(.int 4), (.int 0), (.ref oc)])) rfl (by rw [hml]; rfl) (argsL := [(.ref oc), (.int 0), (.int 4)]) (rest := []) (lenOf pd_17 rfl) rfl (by exact Nat.le_of_eq rfl) (hb hby d7_23) (fun _ _ => ⟨rfl, rfl, (by decide : 1 + 1 ≤ _), (by decide : 4 + 8 ≤ _)⟩)
    dsimp only [Pt.U, Pt.locs, Pt.cells, Pt.slots] at X29 l29 y29 z29 st29 hQ29
    rw [l29, y29, z29] at X29
    obtain ⟨ou, ku, lo0, hi0, lo1, hi1, lo2, hi2, lo3, hi3, rfl, N29q, K29, gu, szu, Vu29, qlo0, qhi0, qlo1, qhi1, qlo2, qhi2, qlo3, qhi3⟩ := hQ29
    have N29 := Fr.app N3 N29q
    have Zs33 : n0 ≤ T29.heap.size := Nat.le_trans Zs5 K29.1
    have ne_oc_ou : oc ≠ ou := Nat.ne_of_lt (Nat.lt_of_lt_of_le f30.lt szu)
    have ne_b1_ou : b1 ≠ ou := Nat.ne_of_lt (Nat.lt_of_lt_of_le VbP.lt szu)
    have sz_ou : h0.size ≤ ou := Nat.le_trans f31.1 szu
    have os35 := (own_st_keep os32 K29 ns0)
    obtain ⟨_, _, ⟨T34, L34, k34, n34⟩, -, X34, ⟨Lc34, hQ34, l34, y34, z34⟩, st34⟩ := Jvm.LawKit.callS X29 hx (y := yn7) hown (mvT hZ (ow hw 116 rfl)) (mvT hZ (ow hw 117 rfl)) (mvT hZ (ow hw 39 rfl)) (mvT hZ (ow hw 118 rfl)) (by decide) (backOf (W := 0) (rm_gc l Z a0 hw [] ou (2 : Int32) vcs vf ku (8 : Int32) [(.int lo0), (.int hi0), (.int lo1), (.int hi1), (.int lo2), (.int hi2), (.int lo3), (.int hi3)] lo2 hi2 2 T29.heap n0 Zs33 os35 Vu29 (by decide) (by decide) (by decide) rfl rfl) hZ (ow hw 118 rfl) (ow hw 39 rfl) (by decide) (by decide)) (g := (mkF m 32 #[.val (.ref oc), .val (.int 0), .val (.int 4), .val (.ref b1), .val (.int 2), .val (.ref ou)] [(.int 2), (.ref ou)])) rfl (by rw [hml]; rfl) (argsL := [(.ref ou), (.int 2)]) (rest := []) (lenOf pd_5 rfl) rfl (by exact Nat.le_of_eq rfl) (hb hby d7_32) (fun _ _ => ⟨rfl, rfl, (by decide : 2 + 0 ≤ _), (by decide : 12 + 0 ≤ _)⟩)
    dsimp only [Pt.U, Pt.locs, Pt.cells, Pt.slots] at X34 l34 y34 z34 st34 hQ34
    rw [l34, y34, z34] at X34
    obtain ⟨zg, rfl, hzg, N34q, e34⟩ := hQ34
    have N34 := Fr.app N29 N34q
    have hc38_36 : (255 : Int) < zg.toInt := by omega
    subst hSS
    obtain ⟨fs, hr, q1, q2, q3, q4⟩ := X34.leave (v := some (.ref ou)) (fun h => by rw [Bd.returns] at h; cases h)
    refine ⟨_, _, pre0 _ ?_, q1, q2, _, _, rfl, ?_, ⟨_, rfl⟩, q3, q4.mono (by decide) (by decide)⟩
    · refine XS.iloadN X0.here hx rfl (hb hby d7_0) rfl ?_
      refine st1 _ ?_
      refine XS.astoreN X1.here hx rfl (hb hby d7_3) rfl rfl (l' := #[.val (.ref oc), .val (.int 0), .val (.int 4), .val (.ref b1), .unset, .unset]) rfl ?_
      refine XS.aloadN X1.here hx rfl (hb hby d7_4) rfl rfl ?_
      refine XS.iloadN X1.here hx rfl (hb hby d7_5) rfl ?_
      refine XS.aloadN X1.here hx rfl (hb hby d7_6) rfl rfl ?_
      refine XS.iconst X1.here hx rfl (hb hby d7_7) ?_
      refine XS.iloadN X1.here hx rfl (hb hby d7_8) rfl ?_
      refine st3 _ ?_
      refine XS.istore X3.here hx rfl (hb hby d7_12) rfl (l' := #[.val (.ref oc), .val (.int 0), .val (.int 4), .val (.ref b1), .val (.int 2), .unset]) rfl ?_
      refine XS.iload X3.here hx rfl (hb hby d7_14) rfl ?_
      refine XS.iloadN X3.here hx rfl (hb hby d7_16) rfl ?_
      refine XS.icmpNo X3.here hx rfl (hb hby d7_17) rfl (own_feq (a := (2 : Int32)) (b := (4 : Int32)) (by decide) (by decide) hc17_28).1 ?_
      refine XS.aloadN X3.here hx rfl (hb hby d7_20) rfl rfl ?_
      refine XS.iloadN X3.here hx rfl (hb hby d7_21) rfl ?_
      refine XS.iloadN X3.here hx rfl (hb hby d7_22) rfl ?_
      refine st29 _ ?_
      refine XS.astore X29.here hx rfl (hb hby d7_26) rfl rfl (l' := #[.val (.ref oc), .val (.int 0), .val (.int 4), .val (.ref b1), .val (.int 2), .val (.ref ou)]) rfl ?_
      refine XS.aload X29.here hx rfl (hb hby d7_28) rfl rfl ?_
      show Steps p.tables e below (T29.setTop (mkF m 30 #[.val (.ref oc), .val (.int 0), .val (.int 4), .val (.ref b1), .val (.int 2), .val (.ref ou)] [(.ref ou)])) _
      refine XS.iload X29.here hx rfl (hb hby d7_30) rfl ?_
      refine st34 _ ?_
      refine XS.sipush X34.here hx rfl (hb hby d7_35) ?_
      refine XS.icmpYes X34.here hx rfl (pc0 := 38) (pc' := 54) rfl (hb hby d7_38) rfl (own_tlt (a := (255 : Int32)) (b := zg) (by decide) rfl hc38_36).2.2.1 (by decide) (by decide) ?_
      refine XS.aload X34.here hx rfl (hb hby d7_54) rfl rfl ?_
      jvm_step X34.here [X34.here.top, hx, (hb hby d7_56), X34.method', Bd.returns, Value.isRef, FieldType.isReference]
      first | (intro acts; rw [hr _ acts rfl rfl rfl]) | rw [hr _ _ rfl rfl rfl]
      exact Steps.refl _
    · show Q_cr4 Z _ _ _ _ _ _ _ _ h0 n0 _ T34.heap _
      rw [e34]
      have f37 := (f31.trans K29 all0)
      exact ⟨ou, _, rfl, N34, f37, gu, sz_ou, Or.inr ⟨fun q => by omega, lo0, hi0, lo1, hi1, lo2, hi2, lo3, hi3, Vu29, qlo0, qhi0, qlo1, qhi1, qlo2, qhi2, qlo3, qhi3⟩⟩
  · have own_mk3 := True.intro
    have hc17_38 : ¬ ((3 : Int) = (4 : Int)) := by decide
    have f40 := (f4.keep K3 (ninS ne_oc_b1 nin0))
    have f41 := (((Keep.refl h0 []).ext E1).trans K3 (allS (P := fun x => x ∈ [] ∨ h0.size ≤ x) (Or.inr sz_b1) all0))
    have os42 := (own_st_keep (own_st_ext Os E1) K3 (nsS V1.nostat ns0))
    obtain ⟨_, _, ⟨T39, L39, k39, n39⟩, -, X39, ⟨Lc39, hQ39, l39, y39, z39⟩, st39⟩ := Jvm.LawKit.callS X3 hx (y := yn26) hown (mvT hZ (ow hw 100 rfl)) (mvT hZ (ow hw 101 rfl)) (mvT hZ (ow hw 39 rfl)) (mvT hZ (ow hw 102 rfl)) (by decide) (backOf (W := 0) (rm_tb4 l Z a0 hw [] oc vcs vf kC c0 c1 c2 c3 T3.heap n0 Zs5 os42 f40 uc0 uc1 uc2 uc3 vc0 vc1 vc2 vc3) hZ (ow hw 102 rfl) (ow hw 39 rfl) (by decide) (by decide)) (g := (mkF m 23 #[.val (.ref oc), .val (.int 0), .val (.int 4), .val (.ref b1), .val (.int 3), .unset] [(.int 4), (.int 0), (.ref oc)])) rfl (by rw [hml]; rfl) (argsL := [(.ref oc), (.int 0), (.int 4)]) (rest := []) (lenOf pd_17 rfl) rfl (by exact Nat.le_of_eq rfl) (hb hby d7_23) (fun _ _ => ⟨rfl, rfl, (by decide : 1 + 1 ≤ _), (by decide : 4 + 8 ≤ _)⟩)
    dsimp only [Pt.U, Pt.locs, Pt.cells, Pt.slots] at X39 l39 y39 z39 st39 hQ39
    rw [l39, y39, z39] at X39
    obtain ⟨ou, ku, lo0, hi0, lo1, hi1, lo2, hi2, lo3, hi3, rfl, N39q, K39, gu, szu, Vu39, qlo0, qhi0, qlo1, qhi1, qlo2, qhi2, qlo3, qhi3⟩ := hQ39
    have N39 := Fr.app N3 N39q
    have Zs43 : n0 ≤ T39.heap.size := Nat.le_trans Zs5 K39.1
    have ne_oc_ou : oc ≠ ou := Nat.ne_of_lt (Nat.lt_of_lt_of_le f40.lt szu)
    have ne_b1_ou : b1 ≠ ou := Nat.ne_of_lt (Nat.lt_of_lt_of_le VbP.lt szu)
    have sz_ou : h0.size ≤ ou := Nat.le_trans f41.1 szu
    have os45 := (own_st_keep os42 K39 ns0)
    obtain ⟨_, _, ⟨T44, L44, k44, n44⟩, -, X44, ⟨Lc44, hQ44, l44, y44, z44⟩, st44⟩ := Jvm.LawKit.callS X39 hx (y := yn7) hown (mvT hZ (ow hw 116 rfl)) (mvT hZ (ow hw 117 rfl)) (mvT hZ (ow hw 39 rfl)) (mvT hZ (ow hw 118 rfl)) (by decide) (backOf (W := 0) (rm_gc l Z a0 hw [] ou (3 : Int32) vcs vf ku (8 : Int32) [(.int lo0), (.int hi0), (.int lo1), (.int hi1), (.int lo2), (.int hi2), (.int lo3), (.int hi3)] lo3 hi3 3 T39.heap n0 Zs43 os45 Vu39 (by decide) (by decide) (by decide) rfl rfl) hZ (ow hw 118 rfl) (ow hw 39 rfl) (by decide) (by decide)) (g := (mkF m 32 #[.val (.ref oc), .val (.int 0), .val (.int 4), .val (.ref b1), .val (.int 3), .val (.ref ou)] [(.int 3), (.ref ou)])) rfl (by rw [hml]; rfl) (argsL := [(.ref ou), (.int 3)]) (rest := []) (lenOf pd_5 rfl) rfl (by exact Nat.le_of_eq rfl) (hb hby d7_32) (fun _ _ => ⟨rfl, rfl, (by decide : 2 + 0 ≤ _), (by decide : 12 + 0 ≤ _)⟩)
    dsimp only [Pt.U, Pt.locs, Pt.cells, Pt.slots] at X44 l44 y44 z44 st44 hQ44
    rw [l44, y44, z44] at X44
    obtain ⟨zg, rfl, hzg, N44q, e44⟩ := hQ44
    have N44 := Fr.app N39 N44q
    have hc38_46 : (255 : Int) < zg.toInt := by omega
    subst hSS
    obtain ⟨fs, hr, q1, q2, q3, q4⟩ := X44.leave (v := some (.ref ou)) (fun h => by rw [Bd.returns] at h; cases h)
    refine ⟨_, _, pre0 _ ?_, q1, q2, _, _, rfl, ?_, ⟨_, rfl⟩, q3, q4.mono (by decide) (by decide)⟩
    · refine XS.iloadN X0.here hx rfl (hb hby d7_0) rfl ?_
      refine st1 _ ?_
      refine XS.astoreN X1.here hx rfl (hb hby d7_3) rfl rfl (l' := #[.val (.ref oc), .val (.int 0), .val (.int 4), .val (.ref b1), .unset, .unset]) rfl ?_
      refine XS.aloadN X1.here hx rfl (hb hby d7_4) rfl rfl ?_
      refine XS.iloadN X1.here hx rfl (hb hby d7_5) rfl ?_
      refine XS.aloadN X1.here hx rfl (hb hby d7_6) rfl rfl ?_
      refine XS.iconst X1.here hx rfl (hb hby d7_7) ?_
      refine XS.iloadN X1.here hx rfl (hb hby d7_8) rfl ?_
      refine st3 _ ?_
      refine XS.istore X3.here hx rfl (hb hby d7_12) rfl (l' := #[.val (.ref oc), .val (.int 0), .val (.int 4), .val (.ref b1), .val (.int 3), .unset]) rfl ?_
      refine XS.iload X3.here hx rfl (hb hby d7_14) rfl ?_
      refine XS.iloadN X3.here hx rfl (hb hby d7_16) rfl ?_
      refine XS.icmpNo X3.here hx rfl (hb hby d7_17) rfl (own_feq (a := (3 : Int32)) (b := (4 : Int32)) (by decide) (by decide) hc17_38).1 ?_
      refine XS.aloadN X3.here hx rfl (hb hby d7_20) rfl rfl ?_
      refine XS.iloadN X3.here hx rfl (hb hby d7_21) rfl ?_
      refine XS.iloadN X3.here hx rfl (hb hby d7_22) rfl ?_
      refine st39 _ ?_
      refine XS.astore X39.here hx rfl (hb hby d7_26) rfl rfl (l' := #[.val (.ref oc), .val (.int 0), .val (.int 4), .val (.ref b1), .val (.int 3), .val (.ref ou)]) rfl ?_
      refine XS.aload X39.here hx rfl (hb hby d7_28) rfl rfl ?_
      show Steps p.tables e below (T39.setTop (mkF m 30 #[.val (.ref oc), .val (.int 0), .val (.int 4), .val (.ref b1), .val (.int 3), .val (.ref ou)] [(.ref ou)])) _
      refine XS.iload X39.here hx rfl (hb hby d7_30) rfl ?_
      refine st44 _ ?_
      refine XS.sipush X44.here hx rfl (hb hby d7_35) ?_
      refine XS.icmpYes X44.here hx rfl (pc0 := 38) (pc' := 54) rfl (hb hby d7_38) rfl (own_tlt (a := (255 : Int32)) (b := zg) (by decide) rfl hc38_46).2.2.1 (by decide) (by decide) ?_
      refine XS.aload X44.here hx rfl (hb hby d7_54) rfl rfl ?_
      jvm_step X44.here [X44.here.top, hx, (hb hby d7_56), X44.method', Bd.returns, Value.isRef, FieldType.isReference]
      first | (intro acts; rw [hr _ acts rfl rfl rfl]) | rw [hr _ _ rfl rfl rfl]
      exact Steps.refl _
    · show Q_cr4 Z _ _ _ _ _ _ _ _ h0 n0 _ T44.heap _
      rw [e44]
      have f47 := (f41.trans K39 all0)
      exact ⟨ou, _, rfl, N44, f47, gu, sz_ou, Or.inr ⟨fun q => by omega, lo0, hi0, lo1, hi1, lo2, hi2, lo3, hi3, Vu39, qlo0, qhi0, qlo1, qhi1, qlo2, qhi2, qlo3, qhi3⟩⟩
theorem ef_rm_iw4 (m : MethodId) (x0 : Addr) (x1 : Addr) : entryFrame m #[(.ref x0), (.ref x1), (.int 0), (.int 4), .null] 6 = mkF m 0 #[.val (.ref x0), .val (.ref x1), .val (.int 0), .val (.int 4), .val .null, .unset] [] := by first | (simp [entryFrame, mkF, argsToLocals, Value.category]; done) | rfl
def Q_iw4 (Z : State) (oa : Addr) (oc : Addr) (vcs : Int32) (vf : Value) (kC : ClassId) (c0 : Int32) (c1 : Int32) (c2 : Int32) (c3 : Int32) (h0 : Heap) (n0 : Nat) (v : Option Value) (h : Heap) (L : List Loc) : Prop := v = none ∧ Fr n0 L ∧ Keep h0 h [oa] ∧ Exa Z h oa "java/lang/String" ∧ ∃ (ob : Addr) (kb : ClassId), n0 ≤ ob ∧ h0.size ≤ ob ∧ Fld Z h oa "java/lang/String" "value" "[B" (.ref ob) ∧ ((Fld Z h oa "java/lang/String" "coder" "B" (.int 0) ∧ ((c0.toInt ≤ 255 ∧ c1.toInt ≤ 255 ∧ c2.toInt ≤ 255 ∧ c3.toInt ≤ 255) ∧ ∃ bb0 bb1 bb2 bb3 : Int32, Arv Z h ob kb .byte (4 : Int32) [(.int bb0), (.int bb1), (.int bb2), (.int bb3)] (.int 0) ∧ bb0.toInt % 256 = c0.toInt ∧ bb1.toInt % 256 = c1.toInt ∧ bb2.toInt % 256 = c2.toInt ∧ bb3.toInt % 256 = c3.toInt)) ∨ (Fld Z h oa "java/lang/String" "coder" "B" (.int 1) ∧ (¬ (c0.toInt ≤ 255 ∧ c1.toInt ≤ 255 ∧ c2.toInt ≤ 255 ∧ c3.toInt ≤ 255) ∧ ∃ lo0 hi0 lo1 hi1 lo2 hi2 lo3 hi3 : Int32, Arv Z h ob kb .byte (8 : Int32) [(.int lo0), (.int hi0), (.int lo1), (.int hi1), (.int lo2), (.int hi2), (.int lo3), (.int hi3)] (.int 0) ∧ lo0.toInt % 256 = c0.toInt % 256 ∧ hi0.toInt % 256 = c0.toInt / 256 ∧ lo1.toInt % 256 = c1.toInt % 256 ∧ hi1.toInt % 256 = c1.toInt / 256 ∧ lo2.toInt % 256 = c2.toInt % 256 ∧ hi2.toInt % 256 = c2.toInt / 256 ∧ lo3.toInt % 256 = c3.toInt % 256 ∧ hi3.toInt % 256 = c3.toInt / 256)))
theorem rm_iw4 (l : Launch) (Z : State) (a0 : Array Value) (hw : ∀ d ∈ tables_1, d.before a0 Z = true) (ws : List Jvm.Cond) (oa : Addr) (oc : Addr) (vcs : Int32) (vf : Value) (kC : ClassId) (c0 : Int32) (c1 : Int32) (c2 : Int32) (c3 : Int32) (h0 : Heap) (n0 : Nat) (Z0 : n0 ≤ h0.size) (Os : own_st Z h0 vcs vf) (Es : Exa Z h0 oa "java/lang/String") (Fc : Fld Z h0 oa "java/lang/String" "coder" "B" (.int 0)) (Fv : Fld Z h0 oa "java/lang/String" "value" "[B" .null) (ga : n0 ≤ oa) (nac : oa ≠ oc) (Vc : Arv Z h0 oc kC .char (4 : Int32) [(.int c0), (.int c1), (.int c2), (.int c3)] (.int 0)) (uc0 : 0 ≤ c0.toInt) (uc1 : 0 ≤ c1.toInt) (uc2 : 0 ≤ c2.toInt) (uc3 : 0 ≤ c3.toInt) (vc0 : c0.toInt < 65536) (vc1 : c1.toInt < 65536) (vc2 : c2.toInt < 65536) (vc3 : c3.toInt < 65536) :
    MetFree l yn30 (head1 (Jvm.Cond.code yn30 kc30 6 none :: ws) ⟨4, 2, 12, 57⟩) (fun a U => a = #[(.ref oa), (.ref oc), (.int 0), (.int 4), .null] ∧ Z.Warmed39 U.vm ∧ U.heap = h0) (fun _ _ _ _ _ => True) (fun _ U o U' => ∃ v L, o = .returned v ∧ Q_iw4 Z oa oc vcs vf kC c0 c1 c2 c3 h0 n0 v U'.heap L ∧ FrameEnd U o U' L 2 12) := by
  refine MetFree.of_bodySF (plainFor_of_name pn_1) hisR ?_
  intro p e s m args below meth c s₁ Bd hml0 hP hK
  obtain ⟨rfl, hZ, hh⟩ := hP
  have hx := Bd.exec
  have hby := Bd.bytes
  have hml : c.maxLocals = 6 := hml0
  have hown : s.vm.findClass "java/lang/String" = some m.cls := findClass_of_methodNamed Bd.named
  have hnm := (name_of_methodNamed Bd.named Bd.method).1
  have X0 : Stand p l e ⟨4, 2, 12, 57⟩ s m #[(.ref oa), (.ref oc), (.int 0), (.int 4), .null] below meth c s₁ [] 0 0 := Stand.of_body Bd
  have e0 : s₁.heap = h0 := by rw [← hh, Bd.state]; rfl
  have N0 := Fr.nil n0
  obtain ⟨SS, hSS⟩ : ∃ S, S = s₁.setTop (entryFrame m #[(.ref oa), (.ref oc), (.int 0), (.int 4), .null] 6) := ⟨_, rfl⟩
  have pre0 : oP p e below (s₁.setTop (mkF m 0 #[.val (.ref oa), .val (.ref oc), .val (.int 0), .val (.int 4), .val .null, .unset] [])) (SS) := by
    rw [hSS]; exact fun t k => castTop (ef_rm_iw4 m oa oc) k
  obtain ⟨T1, X1, e1, st1⟩ := initO X0 hx hZ hown (ow hw 16 rfl) (ow hw 17 rfl) (ow hw 18 rfl) e0 (g := (mkF m 1 #[.val (.ref oa), .val (.ref oc), .val (.int 0), .val (.int 4), .val .null, .unset] [(.ref oa)])) rfl (by rw [hml]; rfl) rfl (hb hby d3_1) (by decide) (W := 0) (by exact Nat.le_of_eq rfl) (by decide)
  have hc5_2 : ¬ ((4 : Int) = (0 : Int)) := by decide
  obtain ⟨T3, X3, e3, st3⟩ := getS2 X1 hx hZ hown (host := "") (Or.inl (ow hw 36 rfl)) Via.refl e1 Os.1 (g := (mkF m 27 #[.val (.ref oa), .val (.ref oc), .val (.int 0), .val (.int 4), .val .null, .unset] [])) rfl (hb hby d3_27)
  have hc30_4 : ¬ (vcs.toInt = (0 : Int)) := by (have q := Os.2.1; omega)
  obtain ⟨_, _, ⟨T5, L5, k5, n5⟩, -, X5, ⟨Lc5, hQ5, l5, y5, z5⟩, st5⟩ := Jvm.LawKit.callS X3 hx (y := yn28) hown (mvT hZ (ow hw 37 rfl)) (mvT hZ (ow hw 38 rfl)) (mvT hZ (ow hw 39 rfl)) (mvT hZ (ow hw 40 rfl)) (by decide) (backOf (W := 0) (rm_cr4 l Z a0 hw [] oc vcs vf kC c0 c1 c2 c3 h0 n0 Z0 Os Vc uc0 uc1 uc2 uc3 vc0 vc1 vc2 vc3) hZ (ow hw 40 rfl) (ow hw 39 rfl) (by decide) (by decide)) (g := (mkF m 36 #[.val (.ref oa), .val (.ref oc), .val (.int 0), .val (.int 4), .val .null, .unset] [(.int 4), (.int 0), (.ref oc)])) rfl (by rw [hml]; rfl) (argsL := [(.ref oc), (.int 0), (.int 4)]) (rest := []) (lenOf pd_17 rfl) rfl (by exact Nat.le_of_eq rfl) (hb hby d3_36) (fun _ _ => ⟨rfl, e3, (by decide : 0 + 2 ≤ _), (by decide : 0 + 12 ≤ _)⟩)
  dsimp only [Pt.U, Pt.locs, Pt.cells, Pt.slots] at X5 l5 y5 z5 st5 hQ5
  rw [l5, y5, z5] at X5
  obtain ⟨ob, kb, rfl, N5q, K5, gb, szb, hO5⟩ := hQ5
  have N5 := Fr.app N0 N5q
  have Zs6 : n0 ≤ T5.heap.size := Nat.le_trans Z0 K5.1
  have ne_oa_ob : oa ≠ ob := Nat.ne_of_lt (Nat.lt_of_lt_of_le Es.lt szb)
  have ne_oc_ob : oc ≠ ob := Nat.ne_of_lt (Nat.lt_of_lt_of_le Vc.lt szb)
  have sz_ob : h0.size ≤ ob := Nat.le_trans (Keep.refl h0 [oa]).1 szb
  have pre7 : oP p e below (T5.setTop (mkF m 39 #[.val (.ref oa), .val (.ref oc), .val (.int 0), .val (.int 4), .val .null, .unset] [(.ref ob)])) (SS) := fun t kt => by
    refine pre0 _ ?_
    refine XS.aloadN X0.here hx rfl (hb hby d3_0) rfl rfl ?_
    refine st1 _ ?_
    refine XS.iloadN X1.here hx rfl (hb hby d3_4) rfl ?_
    refine XS.ifYes X1.here hx rfl (pc0 := 5) (pc' := 27) rfl (hb hby d3_5) rfl (own_if (own_feq (a := (4 : Int32)) (b := (0 : Int32)) (by decide) (by decide) hc5_2).2) (by decide) (by decide) ?_
    refine st3 _ ?_
    refine XS.ifNo X3.here hx rfl (hb hby d3_30) rfl (own_if (own_feq (a := vcs) (b := (0 : Int32)) rfl (by decide) hc30_4).1) ?_
    refine XS.aloadN X3.here hx rfl (hb hby d3_33) rfl rfl ?_
    refine XS.iloadN X3.here hx rfl (hb hby d3_34) rfl ?_
    refine XS.iloadN X3.here hx rfl (hb hby d3_35) rfl ?_
    refine st5 _ ?_
    exact kt
  rcases hO5 with ⟨hall, bb0, bb1, bb2, bb3, VbL, qbb0, qbb1, qbb2, qbb3⟩ | ⟨hall, lo0, hi0, lo1, hi1, lo2, hi2, lo3, hi3, VbU, qlo0, qhi0, qlo1, qhi1, qlo2, qhi2, qlo3, qhi3⟩
  · have own_mL := True.intro
    obtain ⟨_, _, ⟨T8, L8, k8, n8⟩, -, X8, ⟨Lc8, hQ8, l8, y8, z8⟩, st8⟩ := Jvm.LawKit.callS X5 hx (y := yn29) hown (mvT hZ (ow hw 44 rfl)) (mvT hZ (ow hw 45 rfl)) (mvT hZ (ow hw 39 rfl)) (mvT hZ (ow hw 46 rfl)) (by decide) (backOf (W := 1) (rm_cg l Z a0 hw [] ob (4 : Int32) (0 : Int32) (4 : Int32) kb [(.int bb0), (.int bb1), (.int bb2), (.int bb3)] T5.heap n0 Zs6 VbL (Or.inl ⟨rfl, rfl⟩)) hZ (ow hw 46 rfl) (ow hw 39 rfl) (by decide) (by decide)) (g := (mkF m 45 #[.val (.ref oa), .val (.ref oc), .val (.int 0), .val (.int 4), .val .null, .val (.ref ob)] [(.int 4), (.ref ob), (.ref oa)])) rfl (by rw [hml]; rfl) (argsL := [(.ref ob), (.int 4)]) (rest := [(.ref oa)]) (lenOf pd_18 rfl) rfl (by exact Nat.le_of_eq rfl) (hb hby d3_45) (fun _ _ => ⟨rfl, rfl, (by decide : 2 + 0 ≤ _), (by decide : 12 + 0 ≤ _)⟩)
    dsimp only [Pt.U, Pt.locs, Pt.cells, Pt.slots] at X8 l8 y8 z8 st8 hQ8
    rw [l8, y8, z8] at X8
    obtain ⟨zf, rfl, hzf, N8q, e8⟩ := hQ8
    have N8 := Fr.app N5 N8q
    have pre9 : oP p e below (T8.setTop (mkF m 48 #[.val (.ref oa), .val (.ref oc), .val (.int 0), .val (.int 4), .val .null, .val (.ref ob)] [(.int zf), (.ref oa)])) (SS) := fun t kt => by
      refine pre7 _ ?_
      refine XS.astore X5.here hx rfl (hb hby d3_39) rfl rfl (l' := #[.val (.ref oa), .val (.ref oc), .val (.int 0), .val (.int 4), .val .null, .val (.ref ob)]) rfl ?_
      refine XS.aloadN X5.here hx rfl (hb hby d3_41) rfl rfl ?_
      refine XS.aload X5.here hx rfl (hb hby d3_42) rfl rfl ?_
      refine XS.iloadN X5.here hx rfl (hb hby d3_44) rfl ?_
      refine st8 _ ?_
      exact kt
    subst hzf
    have pre10 : oP p e below (T8.setTop (mkF m 48 #[.val (.ref oa), .val (.ref oc), .val (.int 0), .val (.int 4), .val .null, .val (.ref ob)] [(.int 0), (.ref oa)])) (SS) := pre9
    have f11 := (Fc.keep K5 nin0)
    have f12 := (Es.keep K5)
    obtain ⟨T13, h13, X13, e13, W13, st13⟩ := putFN X8 hx hZ hown (ow hw 26 rfl) Via.refl e8 f11 f12 (Or.inr ⟨(ow hw 22 rfl), rfl, hnm⟩) (ow hw 7 rfl) (ty := .byte) (v' := (.int 0)) (by decide) rfl rfl (g := (mkF m 48 #[.val (.ref oa), .val (.ref oc), .val (.int 0), .val (.int 4), .val .null, .val (.ref ob)] [(.int 0), (.ref oa)])) rfl rfl (hb hby d3_48)
    have N13 := Fr.snoc X13 N8 ga
    have Zs14 : n0 ≤ h13.size := by rw [W13.size]; exact Zs6
    have Fw13 := f11.same W13
    have f15 := ((Fv.keep K5 nin0).other W13 (Or.inr (slot_ne (Or.inr (ow hw 21 rfl)) (Or.inr (ow hw 22 rfl)) (by decide) (t := (.array .byte)) (t' := .byte) (by decide) (by decide))))
    have f16 := (f12.wr W13)
    obtain ⟨T17, h17, X17, e17, W17, st17⟩ := putF X13 hx hZ hown (host := "") (Or.inl (ow hw 25 rfl)) Via.refl e13 f15 f16 (Or.inr ⟨(ow hw 21 rfl), rfl, hnm⟩) (ow hw 7 rfl) (ty := (.array .byte)) (by decide) rfl rfl (g := (mkF m 54 #[.val (.ref oa), .val (.ref oc), .val (.int 0), .val (.int 4), .val .null, .val (.ref ob)] [(.ref ob), (.ref oa)])) rfl rfl (hb hby d3_54)
    have N17 := Fr.snoc X17 N13 ga
    have Zs18 : n0 ≤ h17.size := by rw [W17.size]; exact Zs14
    have Fw17 := f15.same W17
    subst hSS
    obtain ⟨fs, hr, q1, q2, q3, q4⟩ := X17.leave (v := none) (fun _ => rfl)
    refine ⟨_, _, pre10 _ ?_, q1, q2, _, _, rfl, ?_, ⟨_, rfl⟩, q3, q4.mono (by decide) (by decide)⟩
    · refine st13 _ ?_
      refine XS.aloadN X13.here hx rfl (hb hby d3_51) rfl rfl ?_
      refine XS.aload X13.here hx rfl (hb hby d3_52) rfl rfl ?_
      refine st17 _ ?_
      show Steps p.tables e below (T17.setTop (mkF m 57 #[.val (.ref oa), .val (.ref oc), .val (.int 0), .val (.int 4), .val .null, .val (.ref ob)] [])) _
      exact X17.returnOut hx Bd.returns (hb hby d3_57) hr
    · show Q_iw4 Z _ _ _ _ _ _ _ _ _ h0 n0 _ T17.heap _
      rw [e17]
      have f19 := (Fw13.other W17 (Or.inr (slot_ne (Or.inr (ow hw 22 rfl)) (Or.inr (ow hw 21 rfl)) (by decide) (t := .byte) (t' := (.array .byte)) (by decide) (by decide))))
      have f20 := ((VbL.other W13 (Ne.symm ne_oa_ob)).other W17 (Ne.symm ne_oa_ob))
      have f21 := ((((Keep.refl h0 [oa]).trans K5 all0).wr W13 (Or.inl (List.mem_of_getElem? (i := 0) rfl))).wr W17 (Or.inl (List.mem_of_getElem? (i := 0) rfl)))
      have f22 := (f16.wr W17)
      exact ⟨rfl, N17, f21, f22, ob, kb, gb, sz_ob, Fw17, Or.inl ⟨f19, hall, bb0, bb1, bb2, bb3, f20, qbb0, qbb1, qbb2, qbb3⟩⟩
  · have own_mU := True.intro
    obtain ⟨_, _, ⟨T23, L23, k23, n23⟩, -, X23, ⟨Lc23, hQ23, l23, y23, z23⟩, st23⟩ := Jvm.LawKit.callS X5 hx (y := yn29) hown (mvT hZ (ow hw 44 rfl)) (mvT hZ (ow hw 45 rfl)) (mvT hZ (ow hw 39 rfl)) (mvT hZ (ow hw 46 rfl)) (by decide) (backOf (W := 1) (rm_cg l Z a0 hw [] ob (4 : Int32) (1 : Int32) (8 : Int32) kb [(.int lo0), (.int hi0), (.int lo1), (.int hi1), (.int lo2), (.int hi2), (.int lo3), (.int hi3)] T5.heap n0 Zs6 VbU (Or.inr ⟨rfl, by decide⟩)) hZ (ow hw 46 rfl) (ow hw 39 rfl) (by decide) (by decide)) (g := (mkF m 45 #[.val (.ref oa), .val (.ref oc), .val (.int 0), .val (.int 4), .val .null, .val (.ref ob)] [(.int 4), (.ref ob), (.ref oa)])) rfl (by rw [hml]; rfl) (argsL := [(.ref ob), (.int 4)]) (rest := [(.ref oa)]) (lenOf pd_18 rfl) rfl (by exact Nat.le_of_eq rfl) (hb hby d3_45) (fun _ _ => ⟨rfl, rfl, (by decide : 2 + 0 ≤ _), (by decide : 12 + 0 ≤ _)⟩)
    dsimp only [Pt.U, Pt.locs, Pt.cells, Pt.slots] at X23 l23 y23 z23 st23 hQ23
    rw [l23, y23, z23] at X23
    obtain ⟨zf, rfl, hzf, N23q, e23⟩ := hQ23
    have N23 := Fr.app N5 N23q
    have pre24 : oP p e below (T23.setTop (mkF m 48 #[.val (.ref oa), .val (.ref oc), .val (.int 0), .val (.int 4), .val .null, .val (.ref ob)] [(.int zf), (.ref oa)])) (SS) := fun t kt => by
      refine pre7 _ ?_
      refine XS.astore X5.here hx rfl (hb hby d3_39) rfl rfl (l' := #[.val (.ref oa), .val (.ref oc), .val (.int 0), .val (.int 4), .val .null, .val (.ref ob)]) rfl ?_
      refine XS.aloadN X5.here hx rfl (hb hby d3_41) rfl rfl ?_
      refine XS.aload X5.here hx rfl (hb hby d3_42) rfl rfl ?_
      refine XS.iloadN X5.here hx rfl (hb hby d3_44) rfl ?_
      refine st23 _ ?_
      exact kt
    subst hzf
    have pre25 : oP p e below (T23.setTop (mkF m 48 #[.val (.ref oa), .val (.ref oc), .val (.int 0), .val (.int 4), .val .null, .val (.ref ob)] [(.int 1), (.ref oa)])) (SS) := pre24
    have f26 := (Fc.keep K5 nin0)
    have f27 := (Es.keep K5)
    obtain ⟨T28, h28, X28, e28, W28, st28⟩ := putFN X23 hx hZ hown (ow hw 26 rfl) Via.refl e23 f26 f27 (Or.inr ⟨(ow hw 22 rfl), rfl, hnm⟩) (ow hw 7 rfl) (ty := .byte) (v' := (.int 1)) (by decide) rfl rfl (g := (mkF m 48 #[.val (.ref oa), .val (.ref oc), .val (.int 0), .val (.int 4), .val .null, .val (.ref ob)] [(.int 1), (.ref oa)])) rfl rfl (hb hby d3_48)
    have N28 := Fr.snoc X28 N23 ga
    have Zs29 : n0 ≤ h28.size := by rw [W28.size]; exact Zs6
    have Fw28 := f26.same W28
    have f30 := ((Fv.keep K5 nin0).other W28 (Or.inr (slot_ne (Or.inr (ow hw 21 rfl)) (Or.inr (ow hw 22 rfl)) (by decide) (t := (.array .byte)) (t' := .byte) (by decide) (by decide))))
    have f31 := (f27.wr W28)
    obtain ⟨T32, h32, X32, e32, W32, st32⟩ := putF X28 hx hZ hown (host := "") (Or.inl (ow hw 25 rfl)) Via.refl e28 f30 f31 (Or.inr ⟨(ow hw 21 rfl), rfl, hnm⟩) (ow hw 7 rfl) (ty := (.array .byte)) (by decide) rfl rfl (g := (mkF m 54 #[.val (.ref oa), .val (.ref oc), .val (.int 0), .val (.int 4), .val .null, .val (.ref ob)] [(.ref ob), (.ref oa)])) rfl rfl (hb hby d3_54)
    have N32 := Fr.snoc X32 N28 ga
    have Zs33 : n0 ≤ h32.size := by rw [W32.size]; exact Zs29
    have Fw32 := f30.same W32
    subst hSS
    obtain ⟨fs, hr, q1, q2, q3, q4⟩ := X32.leave (v := none) (fun _ => rfl)
    refine ⟨_, _, pre25 _ ?_, q1, q2, _, _, rfl, ?_, ⟨_, rfl⟩, q3, q4.mono (by decide) (by decide)⟩
    · refine st28 _ ?_
      refine XS.aloadN X28.here hx rfl (hb hby d3_51) rfl rfl ?_
      refine XS.aload X28.here hx rfl (hb hby d3_52) rfl rfl ?_
      refine st32 _ ?_
      show Steps p.tables e below (T32.setTop (mkF m 57 #[.val (.ref oa), .val (.ref oc), .val (.int 0), .val (.int 4), .val .null, .val (.ref ob)] [])) _
      exact X32.returnOut hx Bd.returns (hb hby d3_57) hr
    · show Q_iw4 Z _ _ _ _ _ _ _ _ _ h0 n0 _ T32.heap _
      rw [e32]
      have f34 := (Fw28.other W32 (Or.inr (slot_ne (Or.inr (ow hw 22 rfl)) (Or.inr (ow hw 21 rfl)) (by decide) (t := .byte) (t' := (.array .byte)) (by decide) (by decide))))
      have f35 := ((VbU.other W28 (Ne.symm ne_oa_ob)).other W32 (Ne.symm ne_oa_ob))
      have f36 := ((((Keep.refl h0 [oa]).trans K5 all0).wr W28 (Or.inl (List.mem_of_getElem? (i := 0) rfl))).wr W32 (Or.inl (List.mem_of_getElem? (i := 0) rfl)))
      have f37 := (f31.wr W32)
      exact ⟨rfl, N32, f36, f37, ob, kb, gb, sz_ob, Fw32, Or.inr ⟨f34, hall, lo0, hi0, lo1, hi1, lo2, hi2, lo3, hi3, f35, qlo0, qhi0, qlo1, qhi1, qlo2, qhi2, qlo3, qhi3⟩⟩
theorem ef_rm_mu4 (m : MethodId) (x0 : Addr) (x1 : Addr) : entryFrame m #[(.ref x0), (.ref x1)] 2 = mkF m 0 #[.val (.ref x0), .val (.ref x1)] [] := by first | (simp [entryFrame, mkF, argsToLocals, Value.category]; done) | rfl
def Q_mu4 (Z : State) (oa : Addr) (oc : Addr) (vcs : Int32) (vf : Value) (kC : ClassId) (c0 : Int32) (c1 : Int32) (c2 : Int32) (c3 : Int32) (h0 : Heap) (n0 : Nat) (v : Option Value) (h : Heap) (L : List Loc) : Prop := v = none ∧ Fr n0 L ∧ Keep h0 h [oa] ∧ Exa Z h oa "java/lang/String" ∧ ∃ (ob : Addr) (kb : ClassId), n0 ≤ ob ∧ h0.size ≤ ob ∧ Fld Z h oa "java/lang/String" "value" "[B" (.ref ob) ∧ ((Fld Z h oa "java/lang/String" "coder" "B" (.int 0) ∧ ((c0.toInt ≤ 255 ∧ c1.toInt ≤ 255 ∧ c2.toInt ≤ 255 ∧ c3.toInt ≤ 255) ∧ ∃ bb0 bb1 bb2 bb3 : Int32, Arv Z h ob kb .byte (4 : Int32) [(.int bb0), (.int bb1), (.int bb2), (.int bb3)] (.int 0) ∧ bb0.toInt % 256 = c0.toInt ∧ bb1.toInt % 256 = c1.toInt ∧ bb2.toInt % 256 = c2.toInt ∧ bb3.toInt % 256 = c3.toInt)) ∨ (Fld Z h oa "java/lang/String" "coder" "B" (.int 1) ∧ (¬ (c0.toInt ≤ 255 ∧ c1.toInt ≤ 255 ∧ c2.toInt ≤ 255 ∧ c3.toInt ≤ 255) ∧ ∃ lo0 hi0 lo1 hi1 lo2 hi2 lo3 hi3 : Int32, Arv Z h ob kb .byte (8 : Int32) [(.int lo0), (.int hi0), (.int lo1), (.int hi1), (.int lo2), (.int hi2), (.int lo3), (.int hi3)] (.int 0) ∧ lo0.toInt % 256 = c0.toInt % 256 ∧ hi0.toInt % 256 = c0.toInt / 256 ∧ lo1.toInt % 256 = c1.toInt % 256 ∧ hi1.toInt % 256 = c1.toInt / 256 ∧ lo2.toInt % 256 = c2.toInt % 256 ∧ hi2.toInt % 256 = c2.toInt / 256 ∧ lo3.toInt % 256 = c3.toInt % 256 ∧ hi3.toInt % 256 = c3.toInt / 256)))
theorem rm_mu4 (l : Launch) (Z : State) (a0 : Array Value) (hw : ∀ d ∈ tables_1, d.before a0 Z = true) (ws : List Jvm.Cond) (oa : Addr) (oc : Addr) (vcs : Int32) (vf : Value) (kC : ClassId) (c0 : Int32) (c1 : Int32) (c2 : Int32) (c3 : Int32) (h0 : Heap) (n0 : Nat) (Z0 : n0 ≤ h0.size) (Os : own_st Z h0 vcs vf) (Es : Exa Z h0 oa "java/lang/String") (Fc : Fld Z h0 oa "java/lang/String" "coder" "B" (.int 0)) (Fv : Fld Z h0 oa "java/lang/String" "value" "[B" .null) (ga : n0 ≤ oa) (nac : oa ≠ oc) (Vc : Arv Z h0 oc kC .char (4 : Int32) [(.int c0), (.int c1), (.int c2), (.int c3)] (.int 0)) (uc0 : 0 ≤ c0.toInt) (uc1 : 0 ≤ c1.toInt) (uc2 : 0 ≤ c2.toInt) (uc3 : 0 ≤ c3.toInt) (vc0 : c0.toInt < 65536) (vc1 : c1.toInt < 65536) (vc2 : c2.toInt < 65536) (vc3 : c3.toInt < 65536) :
    MetFree l yn31 (head1 (Jvm.Cond.code yn31 kc31 2 none :: ws) ⟨5, 2, 12, 74⟩) (fun a U => a = #[(.ref oa), (.ref oc)] ∧ Z.Warmed39 U.vm ∧ U.heap = h0) (fun _ _ _ _ _ => True) (fun _ U o U' => ∃ v L, o = .returned v ∧ Q_mu4 Z oa oc vcs vf kC c0 c1 c2 c3 h0 n0 v U'.heap L ∧ FrameEnd U o U' L 2 12) := by
  refine MetFree.of_bodySF (plainFor_of_name pn_1) hisR ?_
  intro p e s m args below meth c s₁ Bd hml0 hP hK
  obtain ⟨rfl, hZ, hh⟩ := hP
  have hx := Bd.exec
  have hby := Bd.bytes
  have hml : c.maxLocals = 2 := hml0
  have hown : s.vm.findClass "java/lang/String" = some m.cls := findClass_of_methodNamed Bd.named
  have hnm := (name_of_methodNamed Bd.named Bd.method).1
  have X0 : Stand p l e ⟨5, 2, 12, 74⟩ s m #[(.ref oa), (.ref oc)] below meth c s₁ [] 0 0 := Stand.of_body Bd
  have e0 : s₁.heap = h0 := by rw [← hh, Bd.state]; rfl
  have N0 := Fr.nil n0
  obtain ⟨SS, hSS⟩ : ∃ S, S = s₁.setTop (entryFrame m #[(.ref oa), (.ref oc)] 2) := ⟨_, rfl⟩
  have pre0 : oP p e below (s₁.setTop (mkF m 0 #[.val (.ref oa), .val (.ref oc)] [])) (SS) := by
    rw [hSS]; exact fun t k => castTop (ef_rm_mu4 m oa oc) k
  obtain ⟨cl1, Ar1, q1, S1, M1, H1, G1⟩ := id Vc
  obtain ⟨_, _, ⟨T2, L2, k2, n2⟩, -, X2, ⟨Lc2, hQ2, l2, y2, z2⟩, st2⟩ := X0.specialBack hx (y := yn30) rfl hown (mvT hZ (ow hw 12 rfl)) (mvT hZ (ow hw 13 rfl)) (mvT hZ (ow hw 15 rfl)) (by decide) (backOf (W := 0) (rm_iw4 l Z a0 hw [] oa oc vcs vf kC c0 c1 c2 c3 h0 n0 Z0 Os Es Fc Fv ga nac Vc uc0 uc1 uc2 uc3 vc0 vc1 vc2 vc3) hZ (ow hw 15 rfl) (ow hw 8 rfl) (by decide) (by decide)) (g := (mkF m 6 #[.val (.ref oa), .val (.ref oc)] [.null, (.int 4), (.int 0), (.ref oc), (.ref oa)])) rfl (by rw [hml]; rfl) (Steps.refl _) (a := oa) (argsL := [(.ref oc), (.int 0), (.int 4), .null]) (rest := []) (lenOf pd_19 rfl) rfl (by exact Nat.le_of_eq rfl) (hb hby d2_6) (fun _ _ => ⟨rfl, e0, (by decide : 0 + 2 ≤ _), (by decide : 0 + 12 ≤ _)⟩)
  dsimp only [Pt.U, Pt.locs, Pt.cells, Pt.slots] at X2 l2 y2 z2 st2 hQ2
  rw [l2, y2, z2] at X2
  obtain ⟨rfl, N2q, K2, A2, ob, kb, gb, szb, Fv2, hO2⟩ := hQ2
  have N2 := Fr.app N0 N2q
  have Zs3 : n0 ≤ T2.heap.size := Nat.le_trans Z0 K2.1
  have ne_oa_ob : oa ≠ ob := Nat.ne_of_lt (Nat.lt_of_lt_of_le Es.lt szb)
  have ne_oc_ob : oc ≠ ob := Nat.ne_of_lt (Nat.lt_of_lt_of_le Vc.lt szb)
  have sz_ob : h0.size ≤ ob := Nat.le_trans (Keep.refl h0 [oa]).1 szb
  subst hSS
  obtain ⟨fs, hr, q1, q2, q3, q4⟩ := X2.leave (v := none) (fun _ => rfl)
  refine ⟨_, _, pre0 _ ?_, q1, q2, _, _, rfl, ?_, ⟨_, rfl⟩, q3, q4.mono (by decide) (by decide)⟩
  · refine XS.aloadN X0.here hx rfl (hb hby d2_0) rfl rfl ?_
    refine XS.aloadN X0.here hx rfl (hb hby d2_1) rfl rfl ?_
    refine XS.iconst X0.here hx rfl (hb hby d2_2) ?_
    refine XS.aloadN X0.here hx rfl (hb hby d2_3) rfl rfl ?_
    refine X0.arraylength hx (by rw [e0]; exact Ar1.1) (State.isArrayOf_alike hZ.alike Ar1.2.1) (g := (mkF m 4 #[.val (.ref oa), .val (.ref oc)] [(.ref oc), (.int 0), (.ref oc), (.ref oa)])) rfl rfl (hb hby d2_4) _ ?_
    rw [len_of S1 M1]
    refine XS.aconstNull X0.here hx rfl (hb hby d2_5) ?_
    refine st2.trans ?_
    exact X2.returnOut hx Bd.returns (hb hby d2_9) hr
  · show Q_mu4 Z _ _ _ _ _ _ _ _ _ h0 n0 _ T2.heap _
    have f4 := ((Keep.refl h0 [oa]).trans K2 (allS (P := fun x => x ∈ [oa] ∨ h0.size ≤ x) (Or.inl (List.mem_of_getElem? (i := 0) rfl)) all0))
    exact ⟨rfl, N2, f4, A2, ob, kb, gb, sz_ob, Fv2, hO2⟩
theorem ef_rm_nm0 (m : MethodId) (x0 : Addr) : entryFrame m #[(.ref x0)] 1 = mkF m 0 #[.val (.ref x0)] [] := by first | (simp [entryFrame, mkF, argsToLocals, Value.category]; done) | rfl
def Q_nm0 (Z : State) (oa : Addr) (ob : Addr) (kb : ClassId) (h0 : Heap) (n0 : Nat) (v : Option Value) (h : Heap) (L : List Loc) : Prop := ∃ z : Int32, v = some (.int z) ∧ (z.toInt = 0) ∧ Fr n0 L ∧ h = h0
theorem rm_nm0 (l : Launch) (Z : State) (a0 : Array Value) (hw : ∀ d ∈ tables_1, d.before a0 Z = true) (ws : List Jvm.Cond) (oa : Addr) (ob : Addr) (kb : ClassId) (h0 : Heap) (n0 : Nat) (Z0 : n0 ≤ h0.size) (Es : Exa Z h0 oa "java/lang/String") (Fv : Fld Z h0 oa "java/lang/String" "value" "[B" (.ref ob)) (Vb : Arv Z h0 ob kb .byte (0 : Int32) [] (.int 0)) :
    MetFree l yn22 (head1 (Jvm.Cond.code yn22 kc22 1 (some .boolean) :: ws) ⟨1, 0, 0, 12⟩) (fun a U => a = #[(.ref oa)] ∧ Z.Warmed39 U.vm ∧ U.heap = h0) (fun _ _ _ _ _ => True) (fun _ U o U' => ∃ v L, o = .returned v ∧ Q_nm0 Z oa ob kb h0 n0 v U'.heap L ∧ FrameEnd U o U' L 0 0) := by
  refine MetFree.of_bodySF (plainFor_of_name pn_5) hisR ?_
  intro p e s m args below meth c s₁ Bd hml0 hP hK
  obtain ⟨rfl, hZ, hh⟩ := hP
  have hx := Bd.exec
  have hby := Bd.bytes
  have hml : c.maxLocals = 1 := hml0
  have hown : s.vm.findClass "com/example/attestbridge/attestbridge/sync/AclPolicy" = some m.cls := findClass_of_methodNamed Bd.named
  have hnm := (name_of_methodNamed Bd.named Bd.method).1
  have X0 : Stand p l e ⟨1, 0, 0, 12⟩ s m #[(.ref oa)] below meth c s₁ [] 0 0 := Stand.of_body Bd
  have e0 : s₁.heap = h0 := by rw [← hh, Bd.state]; rfl
  have N0 := Fr.nil n0
  obtain ⟨SS, hSS⟩ : ∃ S, S = s₁.setTop (entryFrame m #[(.ref oa)] 1) := ⟨_, rfl⟩
  have pre0 : oP p e below (s₁.setTop (mkF m 0 #[.val (.ref oa)] [])) (SS) := by
    rw [hSS]; exact fun t k => castTop (ef_rm_nm0 m oa) k
  obtain ⟨cq1, kq1, q1a, q1b, q1c⟩ := isOf hZ e0 Es
  obtain ⟨_, _, ⟨T1, L1, k1, n1⟩, -, X1, ⟨Lc1, hQ1, l1, y1, z1⟩, st1⟩ := X0.virtualBack hx (y := yn1) (z := yn1) hown (mvT hZ (ow hw 31 rfl)) (mvT hZ (ow hw 32 rfl)) (notFace_of_selects (args := #[]) (mvT hZ (ow hw 34 rfl))) (mvT hZ (ow hw 34 rfl)) (mvT hZ (ow hw 33 rfl)) (by decide) (backOf (W := 0) (rm_emp l Z a0 hw [] oa ob kb (0 : Int32) [] h0 n0 Z0 Fv Vb) hZ (ow hw 35 rfl) (ow hw 8 rfl) (by decide) (by decide)) q1a q1c (g := (mkF m 1 #[.val (.ref oa)] [(.ref oa)])) rfl (by rw [hml]; rfl) (Steps.refl _) (argsL := []) (rest := []) (lenOf pd_10 rfl) rfl (by exact Nat.le_of_eq rfl) (hb hby d5_1) (fun _ _ => ⟨rfl, e0, (by decide : 0 + 0 ≤ _), (by decide : 0 + 0 ≤ _)⟩)
  dsimp only [Pt.U, Pt.locs, Pt.cells, Pt.slots] at X1 l1 y1 z1 st1 hQ1
  rw [l1, y1, z1] at X1
  obtain ⟨ze, rfl, hze, N1q, e1⟩ := hQ1
  have N1 := Fr.app N0 N1q
  have pre2 : oP p e below (T1.setTop (mkF m 4 #[.val (.ref oa)] [(.int ze)])) (SS) := fun t kt => by
    refine pre0 _ ?_
    refine XS.aloadN X0.here hx rfl (hb hby d5_0) rfl rfl ?_
    refine st1.trans ?_
    exact kt
  have eze : ze = (1 : Int32) := by
    rcases hze with ⟨q, _⟩ | ⟨_, q⟩
    · exact q
    · exact absurd (by decide) q
  subst eze
  have pre3 : oP p e below (T1.setTop (mkF m 4 #[.val (.ref oa)] [(.int 1)])) (SS) := pre2
  have hc4_4 : ¬ ((1 : Int) = (0 : Int)) := by decide
  subst hSS
  obtain ⟨fs, hr, q1, q2, q3, q4⟩ := X1.leave (v := some (.int 0)) (fun h => by rw [Bd.returns] at h; cases h)
  refine ⟨_, _, pre3 _ ?_, q1, q2, _, _, rfl, ?_, ⟨_, rfl⟩, q3, q4.mono (by decide) (by decide)⟩
  · refine XS.ifYes X1.here hx rfl (pc0 := 4) (pc' := 37) rfl (hb hby d5_4) rfl (own_if (own_feq (a := (1 : Int32)) (b := (0 : Int32)) (by decide) (by decide) hc4_4).2) (by decide) (by decide) ?_
    refine XS.iconst X1.here hx rfl (hb hby d5_37) ?_
    exact retN X1 hx (t := .boolean) Bd.returns (by simp) (hb hby d5_38) hr
  · show Q_nm0 Z _ _ _ h0 n0 _ T1.heap _
    rw [e1]
    exact ⟨_, rfl, by decide, N1, rfl⟩
theorem own_safe_null {Z : State} {vm : Vm} {h : Heap} {oa : Addr} {EL : List (String × Nat)} (hal : Z.vm.Alike vm) (E : Exa Z h oa "java/lang/String") (F : Fld Z h oa "java/lang/String" "value" "[B" .null) : Safe Z EL vm h oa := fun B => by
  obtain ⟨p, -, u, a, -, q, -, F', hy⟩ := B
  obtain ⟨cS, ⟨⟨s1, s2, s3, ⟨cv, kv, iv, s4, s4'⟩, ⟨cc, kc, ic, s5, s5'⟩, s6, s7, s8, s9, s10, s11, s12, s13, s14, s15, s16⟩, hfS, hcS⟩, ⟨kS, k1, k2, k3⟩, hB, hbyt⟩ := F'
  rcases hy with rfl | rfl
  · obtain ⟨kv', z4⟩ := ff_back (U := Wst Z vm h) hal s4
    have G : Fld Z h q.sa "java/lang/String" "value" "[B" (.ref q.sd) := ⟨q.sC, cv, kv', iv, q.fSV, s1, z4, s6, s2, s3, by rw [← hal.assignable]; exact s4', s8⟩
    exact (F.ne G (by simp)) rfl
  · have hB' : vm.findClass "[B" = some q.SA.cls := hB
    have hBZ : Z.vm.findClass "[B" = some q.SA.cls := by rw [← hal.findClass]; exact hB'
    obtain ⟨cell, k, e1, e2, -⟩ := E
    cases e1.symm.trans (show h[q.sd]? = some q.SA from s10)
    exact ids_ne e2 hBZ (by decide) rfl
theorem d3_8 : decode kc30 8 = .ok (.aload_n 0, 1) := by decide +kernel
theorem d3_9 : decode kc30 9 = .ok (.ldc 7, 2) := by decide +kernel
theorem d3_11 : decode kc30 11 = .ok (.getfield 9, 3) := by decide +kernel
theorem d3_14 : decode kc30 14 = .ok (.putfield 9, 3) := by decide +kernel
theorem d3_17 : decode kc30 17 = .ok (.aload_n 0, 1) := by decide +kernel
theorem d3_18 : decode kc30 18 = .ok (.ldc 7, 2) := by decide +kernel
theorem d3_20 : decode kc30 20 = .ok (.getfield 15, 3) := by decide +kernel
theorem d3_23 : decode kc30 23 = .ok (.putfield 15, 3) := by decide +kernel
theorem d3_26 : decode kc30 26 = .ok (.return_, 1) := by decide +kernel
theorem ef_rm_iv0 (m : MethodId) (x0 : Addr) (x1 : Addr) : entryFrame m #[(.ref x0), (.ref x1), (.int 0), (.int 0), .null] 6 = mkF m 0 #[.val (.ref x0), .val (.ref x1), .val (.int 0), .val (.int 0), .val .null, .unset] [] := by first | (simp [entryFrame, mkF, argsToLocals, Value.category]; done) | rfl
def Q_iv0 (Z : State) (oa : Addr) (oc : Addr) (vcs : Int32) (vf : Value) (kC : ClassId) (h0 : Heap) (n0 : Nat) (v : Option Value) (h : Heap) (L : List Loc) : Prop := v = none ∧ Fr n0 L ∧ Keep h0 h [oa] ∧ Exa Z h oa "java/lang/String" ∧ ∃ (ob : Addr) (kb : ClassId), Fld Z h oa "java/lang/String" "coder" "B" (.int 0) ∧ Fld Z h oa "java/lang/String" "value" "[B" (.ref ob) ∧ Arv Z h ob kb .byte (0 : Int32) [] (.int 0)
theorem rm_iv0 (l : Launch) (Z : State) (a0 : Array Value) (hw : ∀ d ∈ tables_1, d.before a0 Z = true) (ws : List Jvm.Cond) (oa : Addr) (oc : Addr) (vcs : Int32) (vf : Value) (kC : ClassId) (h0 : Heap) (n0 : Nat) (Z0 : n0 ≤ h0.size) (Os : own_st Z h0 vcs vf) (Es : Exa Z h0 oa "java/lang/String") (Fc : Fld Z h0 oa "java/lang/String" "coder" "B" (.int 0)) (Fv : Fld Z h0 oa "java/lang/String" "value" "[B" .null) (ga : n0 ≤ oa) (nac : oa ≠ oc) (Vc : Arv Z h0 oc kC .char (0 : Int32) [] (.int 0)) :
    MetFree l yn30 (head1 (Jvm.Cond.code yn30 kc30 6 none :: ws) ⟨1, 4, 8, 12⟩) (fun a U => a = #[(.ref oa), (.ref oc), (.int 0), (.int 0), .null] ∧ Z.Warmed39 U.vm ∧ U.heap = h0 ∧ CHv Z own_EL U.vm h0) (fun _ _ _ _ _ => True) (fun _ U o U' => ∃ v L, o = .returned v ∧ Q_iv0 Z oa oc vcs vf kC h0 n0 v U'.heap L ∧ CHr Z own_EL U.vm U.heap U'.vm U'.heap ∧ ReturnedEndW U o U' L 4 8) := by
  refine MetFree.of_bodySF (plainFor_of_name pn_1) hisR ?_
  intro p e s m args below meth c s₁ Bd hml0 hP hK
  obtain ⟨rfl, hZ, hh, hC⟩ := hP
  have hx := Bd.exec
  have hby := Bd.bytes
  have hml : c.maxLocals = 6 := hml0
  have hown : s.vm.findClass "java/lang/String" = some m.cls := findClass_of_methodNamed Bd.named
  have hnm := (name_of_methodNamed Bd.named Bd.method).1
  have X0 : Stand p l e ⟨1, 4, 8, 12⟩ (s.setVm s.vm) m #[(.ref oa), (.ref oc), (.int 0), (.int 0), .null] below meth c s₁ [] 0 0 := Stand.of_body Bd
  have e0 : s₁.heap = h0 := by rw [← hh, Bd.state]; rfl
  have N0 := Fr.nil n0
  have hEL := own_EW hw
  have wS := own_wS hw
  have CR0 : CHr Z own_EL s.vm h0 s.vm h0 := CHr.refl hC
  have hS0 : s.Since s.vm h0.size := (State.WarmedH.refl s).since _
  have hk0 : h0.size ≤ h0.size := Nat.le_refl _
  obtain ⟨SS, hSS⟩ : ∃ S, S = s₁.setTop (entryFrame m #[(.ref oa), (.ref oc), (.int 0), (.int 0), .null] 6) := ⟨_, rfl⟩
  have pre0 : oP p e below (s₁.setTop (mkF m 0 #[.val (.ref oa), .val (.ref oc), .val (.int 0), .val (.int 0), .val .null, .unset] [])) (SS) := by
    rw [hSS]; exact fun t k => castTop (ef_rm_iv0 m oa oc) k
  have Ua0 := own_safe_null (EL := own_EL) hZ.alike Es Fv
  have pre1 : oP p e below (s₁.setTop (mkF m 1 #[.val (.ref oa), .val (.ref oc), .val (.int 0), .val (.int 0), .val .null, .unset] [(.ref oa)])) (SS) := fun t kt => by
    refine pre0 _ ?_
    refine XS.aloadN X0.here hx rfl (hb hby d3_0) rfl rfl ?_
    exact kt
  obtain ⟨T2, X2, e2, st2⟩ := initO X0 hx hZ hown (ow hw 16 rfl) (ow hw 17 rfl) (ow hw 18 rfl) e0 (g := (mkF m 1 #[.val (.ref oa), .val (.ref oc), .val (.int 0), .val (.int 0), .val .null, .unset] [(.ref oa)])) rfl (by rw [hml]; rfl) rfl (hb hby d3_1) (by decide) (W := 0) (by exact Nat.le_of_eq rfl) (by decide)
  have hc5_3 : (0 : Int) = (0 : Int) := by decide
  have pre4 : oP p e below (T2.setTop (mkF m 9 #[.val (.ref oa), .val (.ref oc), .val (.int 0), .val (.int 0), .val .null, .unset] [(.ref oa)])) (SS) := fun t kt => by
    refine pre1 _ ?_
    refine st2 _ ?_
    refine XS.iloadN X2.here hx rfl (hb hby d3_4) rfl ?_
    refine XS.ifNo X2.here hx rfl (hb hby d3_5) rfl (own_if (own_teq (a := (0 : Int32)) (b := (0 : Int32)) (by decide) (by decide) hc5_3).2) ?_
    refine XS.aloadN X2.here hx rfl (hb hby d3_8) rfl rfl ?_
    exact kt
  obtain ⟨la5, T5, h5, k15, lb5, kb5, X5, e5, E5, hS5, hk5, hZ, hown, A5, Fc5, Fv5, V5, lt5, lu5, CRn5, Lt5, Sf5, st5⟩ := ldcCH X2 hx hZ hown (text := "") (ow hw 19 rfl) wS e2 hS0 hk0 hEL (List.mem_of_getElem? (i := 2) rfl) CR0.1 (vs := []) (z := (0 : Int32)) ⟨by decide, by rfl⟩ (by decide) rfl (g := (mkF m 9 #[.val (.ref oa), .val (.ref oc), .val (.int 0), .val (.int 0), .val .null, .unset] [(.ref oa)])) rfl (hb hby d3_9) (n := 0) (by decide) (by decide) (by decide) (by decide)
  have sf6 := CRn5.safe Es.lt Ua0
  have CR7 := CR0.trans CRn5
  have Zs8 : n0 ≤ h5.size := Nat.le_trans Z0 E5.1
  have ne_oa_la5 := (Sf5 _ sf6).1
  have ne_oa_lb5 := (Sf5 _ sf6).2
  obtain ⟨T9, X9, e9, st9⟩ := getF X5 hx hZ hown (host := "") (Or.inl (ow hw 25 rfl)) Via.refl e5 Fv5 (g := (mkF m 11 #[.val (.ref oa), .val (.ref oc), .val (.int 0), .val (.int 0), .val .null, .unset] [(.ref la5), (.ref oa)])) rfl rfl (hb hby d3_11)
  have f10 := (Fv.ext E5)
  have f11 := (Es.ext E5)
  obtain ⟨T12, h12, X12, e12, W12, st12⟩ := putF X9 hx hZ hown (host := "") (Or.inl (ow hw 25 rfl)) Via.refl e9 f10 f11 (Or.inr ⟨(ow hw 21 rfl), rfl, hnm⟩) (ow hw 7 rfl) (ty := (.array .byte)) (by decide) rfl rfl (g := (mkF m 14 #[.val (.ref oa), .val (.ref oc), .val (.int 0), .val (.int 0), .val .null, .unset] [(.ref lb5), (.ref oa)])) rfl rfl (hb hby d3_14)
  have N12 := Fr.snoc X12 N0 ga
  have sf13 := (Safe.wr W12 sf6 CR7.1 sf6)
  have CR14 := (CR7.trans (CHr.wr W12 sf6 CR7.1))
  have hk15 := Nat.le_trans hk5 (Nat.le_of_eq W12.size.symm)
  have Zs16 : n0 ≤ h12.size := by rw [W12.size]; exact Zs8
  have Fw12 := f10.same W12
  have pre17 : oP p e below (T12.setTop (mkF m 18 #[.val (.ref oa), .val (.ref oc), .val (.int 0), .val (.int 0), .val .null, .unset] [(.ref oa)])) (SS) := fun t kt => by
    refine pre4 _ ?_
    refine st5 _ ?_
    refine st9 _ ?_
    refine st12 _ ?_
    refine XS.aloadN X12.here hx rfl (hb hby d3_17) rfl rfl ?_
    exact kt
  have f18 := (f11.wr W12)
  have f19 := ((Vc.ext E5).other W12 (Ne.symm nac))
  have f20 := (A5.wr W12)
  have f21 := (V5.other W12 (Ne.symm ne_oa_lb5))
  obtain ⟨la22, T22, h22, k122, lb22, kb22, X22, e22, E22, hS22, hk22, hZ, hown, A22, Fc22, Fv22, V22, lt22, lu22, CRn22, Lt22, Sf22, st22⟩ := ldcCH X12 hx hZ hown (text := "") (ow hw 19 rfl) wS e12 hS5 hk15 hEL (List.mem_of_getElem? (i := 2) rfl) CR14.1 (vs := []) (z := (0 : Int32)) ⟨by decide, by rfl⟩ (by decide) rfl (g := (mkF m 18 #[.val (.ref oa), .val (.ref oc), .val (.int 0), .val (.int 0), .val .null, .unset] [(.ref oa)])) rfl (hb hby d3_18) (n := 0) (by decide) (by decide) (by decide) (by decide)
  have sf23 := CRn22.safe f18.lt sf13
  have CR24 := CR14.trans CRn22
  have Zs25 : n0 ≤ h22.size := Nat.le_trans Zs16 E22.1
  have ne_oa_la22 := (Sf22 _ sf23).1
  have ne_oa_lb22 := (Sf22 _ sf23).2
  obtain ⟨T26, X26, e26, st26⟩ := getF X22 hx hZ hown (host := "") (Or.inl (ow hw 26 rfl)) Via.refl e22 Fc22 (g := (mkF m 20 #[.val (.ref oa), .val (.ref oc), .val (.int 0), .val (.int 0), .val .null, .unset] [(.ref la22), (.ref oa)])) rfl rfl (hb hby d3_20)
  have f27 := (((Fc.ext E5).other W12 (Or.inr (slot_ne (Or.inr (ow hw 22 rfl)) (Or.inr (ow hw 21 rfl)) (by decide) (t := .byte) (t' := (.array .byte)) (by decide) (by decide)))).ext E22)
  have f28 := (f18.ext E22)
  obtain ⟨T29, h29, X29, e29, W29, st29⟩ := putFN X26 hx hZ hown (ow hw 26 rfl) Via.refl e26 f27 f28 (Or.inr ⟨(ow hw 22 rfl), rfl, hnm⟩) (ow hw 7 rfl) (ty := .byte) (v' := (.int 0)) (by decide) rfl rfl (g := (mkF m 23 #[.val (.ref oa), .val (.ref oc), .val (.int 0), .val (.int 0), .val .null, .unset] [(.int 0), (.ref oa)])) rfl rfl (hb hby d3_23)
  have N29 := Fr.snoc X29 N12 ga
  have sf30 := (Safe.wr W29 sf23 CR24.1 sf23)
  have CR31 := (CR24.trans (CHr.wr W29 sf23 CR24.1))
  have hk32 := Nat.le_trans hk22 (Nat.le_of_eq W29.size.symm)
  have Zs33 : n0 ≤ h29.size := by rw [W29.size]; exact Zs25
  have Fw29 := f27.same W29
  subst hSS
  obtain ⟨fs, hr, hrun, hended, hREW⟩ := X29.leaveW hS22 (by rw [e29]; exact hk32) (v := none) (fun _ => rfl)
  refine ⟨_, _, pre17 _ ?_, hrun, hended, _, _, rfl, ?_, ?_, ⟨hREW.1, hREW.2.1, hREW.2.2.1, hREW.2.2.2.mono (by decide) (by decide)⟩⟩
  · refine st22 _ ?_
    refine st26 _ ?_
    refine st29 _ ?_
    exact X29.returnOut hx Bd.returns (hb hby d3_26) hr
  · show Q_iv0 Z _ _ _ _ _ h0 n0 _ T29.heap _
    rw [e29]
    have f34 := (((((Keep.refl h0 [oa]).ext E5).wr W12 (Or.inl (List.mem_of_getElem? (i := 0) rfl))).ext E22).wr W29 (Or.inl (List.mem_of_getElem? (i := 0) rfl)))
    have f35 := (f28.wr W29)
    have f36 := ((Fw12.ext E22).other W29 (Or.inr (slot_ne (Or.inr (ow hw 21 rfl)) (Or.inr (ow hw 22 rfl)) (by decide) (t := (.array .byte)) (t' := .byte) (by decide) (by decide))))
    have f37 := ((f21.ext E22).other W29 (Ne.symm ne_oa_lb5))
    exact ⟨rfl, N29, f34, f35, lb5, _, Fw29, f36, f37⟩
  · show CHr Z own_EL s.vm s.heap T29.vm T29.heap
    rw [hh, e29]
    exact CR31.trans (CHv.at X29 hZ hEL CR31.1)
theorem ef_rm_mk0 (m : MethodId) (x0 : Addr) (x1 : Addr) : entryFrame m #[(.ref x0), (.ref x1)] 2 = mkF m 0 #[.val (.ref x0), .val (.ref x1)] [] := by first | (simp [entryFrame, mkF, argsToLocals, Value.category]; done) | rfl
def Q_mk0 (Z : State) (oa : Addr) (oc : Addr) (vcs : Int32) (vf : Value) (kC : ClassId) (h0 : Heap) (n0 : Nat) (v : Option Value) (h : Heap) (L : List Loc) : Prop := v = none ∧ Fr n0 L ∧ Keep h0 h [oa] ∧ Exa Z h oa "java/lang/String" ∧ ∃ (ob : Addr) (kb : ClassId), Fld Z h oa "java/lang/String" "coder" "B" (.int 0) ∧ Fld Z h oa "java/lang/String" "value" "[B" (.ref ob) ∧ Arv Z h ob kb .byte (0 : Int32) [] (.int 0)
theorem rm_mk0 (l : Launch) (Z : State) (a0 : Array Value) (hw : ∀ d ∈ tables_1, d.before a0 Z = true) (ws : List Jvm.Cond) (oa : Addr) (oc : Addr) (vcs : Int32) (vf : Value) (kC : ClassId) (h0 : Heap) (n0 : Nat) (Z0 : n0 ≤ h0.size) (Os : own_st Z h0 vcs vf) (Es : Exa Z h0 oa "java/lang/String") (Fc : Fld Z h0 oa "java/lang/String" "coder" "B" (.int 0)) (Fv : Fld Z h0 oa "java/lang/String" "value" "[B" .null) (ga : n0 ≤ oa) (nac : oa ≠ oc) (Vc : Arv Z h0 oc kC .char (0 : Int32) [] (.int 0)) :
    MetFree l yn31 (head1 (Jvm.Cond.code yn31 kc31 2 none :: ws) ⟨2, 4, 8, 29⟩) (fun a U => a = #[(.ref oa), (.ref oc)] ∧ Z.Warmed39 U.vm ∧ U.heap = h0 ∧ CHv Z own_EL U.vm h0) (fun _ _ _ _ _ => True) (fun _ U o U' => ∃ v L, o = .returned v ∧ Q_mk0 Z oa oc vcs vf kC h0 n0 v U'.heap L ∧ CHr Z own_EL U.vm U.heap U'.vm U'.heap ∧ ReturnedEndW U o U' L 4 8) := by
  refine MetFree.of_bodySF (plainFor_of_name pn_1) hisR ?_
  intro p e s m args below meth c s₁ Bd hml0 hP hK
  obtain ⟨rfl, hZ, hh, hC⟩ := hP
  have hx := Bd.exec
  have hby := Bd.bytes
  have hml : c.maxLocals = 2 := hml0
  have hown : s.vm.findClass "java/lang/String" = some m.cls := findClass_of_methodNamed Bd.named
  have hnm := (name_of_methodNamed Bd.named Bd.method).1
  have X0 : Stand p l e ⟨2, 4, 8, 29⟩ (s.setVm s.vm) m #[(.ref oa), (.ref oc)] below meth c s₁ [] 0 0 := Stand.of_body Bd
  have e0 : s₁.heap = h0 := by rw [← hh, Bd.state]; rfl
  have N0 := Fr.nil n0
  have hEL := own_EW hw
  have wS := own_wS hw
  have CR0 : CHr Z own_EL s.vm h0 s.vm h0 := CHr.refl hC
  have hS0 : s.Since s.vm h0.size := (State.WarmedH.refl s).since _
  have hk0 : h0.size ≤ h0.size := Nat.le_refl _
  obtain ⟨SS, hSS⟩ : ∃ S, S = s₁.setTop (entryFrame m #[(.ref oa), (.ref oc)] 2) := ⟨_, rfl⟩
  have pre0 : oP p e below (s₁.setTop (mkF m 0 #[.val (.ref oa), .val (.ref oc)] [])) (SS) := by
    rw [hSS]; exact fun t k => castTop (ef_rm_mk0 m oa oc) k
  have Ua0 := own_safe_null (EL := own_EL) hZ.alike Es Fv
  obtain ⟨cl1, Ar1, q1, S1, M1, H1, G1⟩ := id Vc
  have pre2 : oP p e below (s₁.setTop (mkF m 6 #[.val (.ref oa), .val (.ref oc)] [.null, (.int 0), (.int 0), (.ref oc), (.ref oa)])) (SS) := fun t kt => by
    refine pre0 _ ?_
    refine XS.aloadN X0.here hx rfl (hb hby d2_0) rfl rfl ?_
    refine XS.aloadN X0.here hx rfl (hb hby d2_1) rfl rfl ?_
    refine XS.iconst X0.here hx rfl (hb hby d2_2) ?_
    refine XS.aloadN X0.here hx rfl (hb hby d2_3) rfl rfl ?_
    refine X0.arraylength hx (by rw [e0]; exact Ar1.1) (State.isArrayOf_alike hZ.alike Ar1.2.1) (g := (mkF m 4 #[.val (.ref oa), .val (.ref oc)] [(.ref oc), (.int 0), (.ref oc), (.ref oa)])) rfl rfl (hb hby d2_4) _ ?_
    rw [len_of S1 M1]
    refine XS.aconstNull X0.here hx rfl (hb hby d2_5) ?_
    exact kt
  obtain ⟨_, _, ⟨T3, L3, k3, n3⟩, -, Xp3, hSp3, hgp3, ⟨Lc3, hQ3, l3, y3, z3, CRn3⟩, st3⟩ := X0.specialBackS hx (y := yn30) rfl hown (mvT hZ (ow hw 12 rfl)) (mvT hZ (ow hw 13 rfl)) (mvT hZ (ow hw 15 rfl)) (by decide) (backOfSH (W := 0) (rm_iv0 l Z a0 hw [] oa oc vcs vf kC h0 n0 Z0 Os Es Fc Fv ga nac Vc) hZ (ow hw 15 rfl) (ow hw 8 rfl) (by decide) (by decide) hEL CR0.1) (g := (mkF m 6 #[.val (.ref oa), .val (.ref oc)] [.null, (.int 0), (.int 0), (.ref oc), (.ref oa)])) rfl (by rw [hml]; rfl) (Steps.refl _) (a := oa) (argsL := [(.ref oc), (.int 0), (.int 0), .null]) (rest := []) (lenOf pd_19 rfl) rfl (by exact Nat.le_of_eq rfl) (hb hby d2_6) (fun _ _ => ⟨rfl, e0, (by decide : 0 + 4 ≤ _), (by decide : 0 + 8 ≤ _)⟩)
  dsimp only [Pt.U, Pt.locs, Pt.cells, Pt.slots] at Xp3 hSp3 hgp3 l3 y3 z3 st3 hQ3 CRn3
  rw [l3, y3, z3] at Xp3
  obtain ⟨X3, hS3, hZ, hown⟩ := rebS hS0 (n1 := s₁.heap.size) (by rw [e0]; exact hk0) Xp3 hSp3 hgp3 hZ hown
  have sf4 := CRn3.safe Es.lt Ua0
  have CR5 := CR0.trans CRn3
  obtain ⟨rfl, N3q, K3, A3, ob, kb, Fc3, Fv3, Vb3⟩ := hQ3
  have N3 := Fr.app N0 N3q
  have Zs6 : n0 ≤ T3.heap.size := Nat.le_trans Z0 K3.1
  subst hSS
  obtain ⟨fs, hr, hrun, hended, hREW⟩ := X3.leaveW hS3 (Nat.le_refl T3.heap.size) (v := none) (fun _ => rfl)
  refine ⟨_, _, pre2 _ ?_, hrun, hended, _, _, rfl, ?_, ?_, ⟨hREW.1, hREW.2.1, hREW.2.2.1, hREW.2.2.2.mono (by decide) (by decide)⟩⟩
  · refine st3.trans ?_
    exact X3.returnOut hx Bd.returns (hb hby d2_9) hr
  · show Q_mk0 Z _ _ _ _ _ h0 n0 _ T3.heap _
    have f7 := ((Keep.refl h0 [oa]).trans K3 (allS (P := fun x => x ∈ [oa] ∨ h0.size ≤ x) (Or.inl (List.mem_of_getElem? (i := 0) rfl)) all0))
    exact ⟨rfl, N3, f7, A3, ob, _, Fc3, Fv3, Vb3⟩
  · show CHr Z own_EL s.vm s.heap T3.vm T3.heap
    rw [hh]
    exact CR5.trans (CHv.at X3 hZ hEL CR5.1)
theorem ef_rm0 (m : MethodId) (x0 : Int32) (x1 : Int32) (x2 : Int32) (x3 : Int32) (x4 : Int32) : entryFrame m #[(.int x0), (.int x1), (.int x2), (.int x3), (.int x4)] maxLocals = mkF m 0 #[.val (.int x0), .val (.int x1), .val (.int x2), .val (.int x3), .val (.int x4), .unset, .unset, .unset, .unset, .unset, .unset, .unset, .unset, .unset, .unset, .unset] [] := by first | (simp [entryFrame, mkF, argsToLocals, Value.category, maxLocals]; done) | rfl
theorem pd_20 : parseMethodDescriptor "(I)C" = some ⟨[.int], some .char⟩ := by decide +kernel
theorem pd_21 : parseMethodDescriptor "([C)V" = some ⟨[(.array .char)], none⟩ := by decide +kernel
theorem pd_22 : parseMethodDescriptor "(Ljava/lang/String;)Z" = some ⟨[(.object "java/lang/String")], some .boolean⟩ := by decide +kernel
def Q0 (Z : State) (wl : Int32) (wa : Int32) (wb : Int32) (wc : Int32) (wd : Int32) (vcs : Int32) (vf : Value) (h0 : Heap) (n0 : Nat) (v : Option Value) (h : Heap) (L : List Loc) : Prop := v = some (.int 1) ∧ Fr n0 L
theorem rm0 (l : Launch) (Z : State) (a0 : Array Value) (hw : ∀ d ∈ tables_1, d.before a0 Z = true) (ws : List Jvm.Cond) (wl : Int32) (wa : Int32) (wb : Int32) (wc : Int32) (wd : Int32) (vcs : Int32) (vf : Value) (h0 : Heap) (n0 : Nat) (Z0 : n0 ≤ h0.size) (Os : own_st Z h0 vcs vf) :
    MetFree l x (head1 (Jvm.Cond.code x code maxLocals ret :: ws) room_1) (fun a U => a = #[(.int wl), (.int wa), (.int wb), (.int wc), (.int wd)] ∧ Z.Warmed39 U.vm ∧ U.heap = h0 ∧ CHv Z own_EL U.vm h0) (fun _ _ _ _ _ => True) (fun _ U o U' => ∃ v L, o = .returned v ∧ Q0 Z wl wa wb wc wd vcs vf h0 n0 v U'.heap L ∧ CHr Z own_EL U.vm U.heap U'.vm U'.heap ∧ ReturnedEndW U o U' L room_1.cells room_1.slots) := by
  refine MetFree.of_bodySF (plainFor_of_name pn_0) hisR ?_
  intro p e s m args below meth c s₁ Bd hml0 hP hK
  obtain ⟨rfl, hZ, hh, hC⟩ := hP
  have hx := Bd.exec
  have hby := Bd.bytes
  have hml : c.maxLocals = 16 := hml0
  have hown : s.vm.findClass "com/example/attestbridge/attestbridge/sync/AclPolicyIsNamePinLaw" = some m.cls := findClass_of_methodNamed Bd.named
  have hnm := (name_of_methodNamed Bd.named Bd.method).1
  have X0 : Stand p l e room_1 (s.setVm s.vm) m #[(.int wl), (.int wa), (.int wb), (.int wc), (.int wd)] below meth c s₁ [] 0 0 := Stand.of_body Bd
  have e0 : s₁.heap = h0 := by rw [← hh, Bd.state]; rfl
  have N0 := Fr.nil n0
  have hEL := own_EW hw
  have wS := own_wS hw
  have CR0 : CHr Z own_EL s.vm h0 s.vm h0 := CHr.refl hC
  have hS0 : s.Since s.vm h0.size := (State.WarmedH.refl s).since _
  have hk0 : h0.size ≤ h0.size := Nat.le_refl _
  obtain ⟨SS, hSS⟩ : ∃ S, S = s₁.setTop (entryFrame m #[(.int wl), (.int wa), (.int wb), (.int wc), (.int wd)] maxLocals) := ⟨_, rfl⟩
  have pre0 : oP p e below (s₁.setTop (mkF m 0 #[.val (.int wl), .val (.int wa), .val (.int wb), .val (.int wc), .val (.int wd), .unset, .unset, .unset, .unset, .unset, .unset, .unset, .unset, .unset, .unset, .unset] [])) (SS) := by
    rw [hSS]; exact fun t k => castTop (ef_rm0 m wl wa wb wc wd) k
  have pre1 : oP p e below (s₁.setTop (mkF m 6 #[.val (.int wl), .val (.int wa), .val (.int wb), .val (.int wc), .val (.int wd), .unset, .unset, .unset, .unset, .unset, .unset, .unset, .unset, .unset, .unset, .unset] [(.int ((wl &&& (2147483647 : Int32)) % (5 : Int32)))])) (SS) := fun t kt => by
    refine pre0 _ ?_
    refine XS.iloadN X0.here hx rfl (hb hby at_0) rfl ?_
    refine X0.ldcInt hx hown (mvT hZ (ow hw 0 rfl)) (g := (mkF m 1 #[.val (.int wl), .val (.int wa), .val (.int wb), .val (.int wc), .val (.int wd), .unset, .unset, .unset, .unset, .unset, .unset, .unset, .unset, .unset, .unset, .unset] [(.int wl)])) rfl (hb hby at_1) _ ?_
    refine XS.iand X0.here hx rfl (hb hby at_3) rfl ?_
    refine XS.iconst X0.here hx rfl (hb hby at_4) ?_
    refine iremM X0 hx rfl (hb hby at_5) rfl (by decide) ?_
    exact kt
  obtain ⟨vl, hvl⟩ : ∃ z : Int32, z = ((wl &&& (2147483647 : Int32)) % (5 : Int32)) := ⟨_, rfl⟩
  have jvl : 0 ≤ vl.toInt ∧ vl.toInt ≤ 4 := by rw [hvl]; have := rng32 wl; have : ((wl &&& (2147483647 : Int32))).toInt = wl.toInt % 2147483648 := c_mask wl (2147483647 : Int32) 31 (by decide) (by decide); have := c_irem (wl &&& (2147483647 : Int32)) (5 : Int32) 5 (by decide); omega
  have pre2 : oP p e below (s₁.setTop (mkF m 6 #[.val (.int wl), .val (.int wa), .val (.int wb), .val (.int wc), .val (.int wd), .unset, .unset, .unset, .unset, .unset, .unset, .unset, .unset, .unset, .unset, .unset] [(.int vl)])) (SS) := by rw [hvl]; exact pre1
  have pre3 : oP p e below (s₁.setTop (mkF m 9 #[.val (.int wl), .val (.int wa), .val (.int wb), .val (.int wc), .val (.int wd), .val (.int vl), .unset, .unset, .unset, .unset, .unset, .unset, .unset, .unset, .unset, .unset] [(.int wa)])) (SS) := fun t kt => by
    refine pre2 _ ?_
    refine XS.istore X0.here hx rfl (hb hby at_6) rfl (l' := #[.val (.int wl), .val (.int wa), .val (.int wb), .val (.int wc), .val (.int wd), .val (.int vl), .unset, .unset, .unset, .unset, .unset, .unset, .unset, .unset, .unset, .unset]) rfl ?_
    refine XS.iloadN X0.here hx rfl (hb hby at_8) rfl ?_
    exact kt
  obtain ⟨_, _, ⟨T4, L4, k4, n4⟩, -, X4, ⟨Lc4, hQ4, l4, y4, z4⟩, st4⟩ := Jvm.LawKit.callS X0 hx (y := yn0) hown (mvT hZ (ow hw 1 rfl)) (mvT hZ (ow hw 2 rfl)) (mvT hZ (ow hw 3 rfl)) (mvT hZ (ow hw 4 rfl)) (by decide) (backOf (W := 0) (rm1 l Z a0 hw [] wa h0 n0 Z0 ) hZ (ow hw 4 rfl) (ow hw 3 rfl) (by decide) (by decide)) (g := (mkF m 9 #[.val (.int wl), .val (.int wa), .val (.int wb), .val (.int wc), .val (.int wd), .val (.int vl), .unset, .unset, .unset, .unset, .unset, .unset, .unset, .unset, .unset, .unset] [(.int wa)])) rfl (by rw [hml]; rfl) (argsL := [(.int wa)]) (rest := []) (lenOf pd_20 rfl) rfl (by exact Nat.le_of_eq rfl) (hb hby at_9) (fun _ _ => ⟨rfl, e0, (by decide : 0 + 0 ≤ _), (by decide : 0 + 0 ≤ _)⟩)
  dsimp only [Pt.U, Pt.locs, Pt.cells, Pt.slots] at X4 l4 y4 z4 st4 hQ4
  rw [l4, y4, z4] at X4
  obtain ⟨c0, rfl, hc0, N4q, e4⟩ := hQ4
  have N4 := Fr.app N0 N4q
  have pre5 : oP p e below (T4.setTop (mkF m 15 #[.val (.int wl), .val (.int wa), .val (.int wb), .val (.int wc), .val (.int wd), .val (.int vl), .val (.int c0), .unset, .unset, .unset, .unset, .unset, .unset, .unset, .unset, .unset] [(.int wb)])) (SS) := fun t kt => by
    refine pre3 _ ?_
    refine st4 _ ?_
    refine XS.istore X4.here hx rfl (hb hby at_12) rfl (l' := #[.val (.int wl), .val (.int wa), .val (.int wb), .val (.int wc), .val (.int wd), .val (.int vl), .val (.int c0), .unset, .unset, .unset, .unset, .unset, .unset, .unset, .unset, .unset]) rfl ?_
    refine XS.iloadN X4.here hx rfl (hb hby at_14) rfl ?_
    exact kt
  obtain ⟨_, _, ⟨T6, L6, k6, n6⟩, -, X6, ⟨Lc6, hQ6, l6, y6, z6⟩, st6⟩ := Jvm.LawKit.callS X4 hx (y := yn0) hown (mvT hZ (ow hw 1 rfl)) (mvT hZ (ow hw 2 rfl)) (mvT hZ (ow hw 3 rfl)) (mvT hZ (ow hw 4 rfl)) (by decide) (backOf (W := 0) (rm1 l Z a0 hw [] wb h0 n0 Z0 ) hZ (ow hw 4 rfl) (ow hw 3 rfl) (by decide) (by decide)) (g := (mkF m 15 #[.val (.int wl), .val (.int wa), .val (.int wb), .val (.int wc), .val (.int wd), .val (.int vl), .val (.int c0), .unset, .unset, .unset, .unset, .unset, .unset, .unset, .unset, .unset] [(.int wb)])) rfl (by rw [hml]; rfl) (argsL := [(.int wb)]) (rest := []) (lenOf pd_20 rfl) rfl (by exact Nat.le_of_eq rfl) (hb hby at_15) (fun _ _ => ⟨rfl, e4, (by decide : 0 + 0 ≤ _), (by decide : 0 + 0 ≤ _)⟩)
  dsimp only [Pt.U, Pt.locs, Pt.cells, Pt.slots] at X6 l6 y6 z6 st6 hQ6
  rw [l6, y6, z6] at X6
  obtain ⟨c1, rfl, hc1, N6q, e6⟩ := hQ6
  have N6 := Fr.app N4 N6q
  have pre7 : oP p e below (T6.setTop (mkF m 21 #[.val (.int wl), .val (.int wa), .val (.int wb), .val (.int wc), .val (.int wd), .val (.int vl), .val (.int c0), .val (.int c1), .unset, .unset, .unset, .unset, .unset, .unset, .unset, .unset] [(.int wc)])) (SS) := fun t kt => by
    refine pre5 _ ?_
    refine st6 _ ?_
    refine XS.istore X6.here hx rfl (hb hby at_18) rfl (l' := #[.val (.int wl), .val (.int wa), .val (.int wb), .val (.int wc), .val (.int wd), .val (.int vl), .val (.int c0), .val (.int c1), .unset, .unset, .unset, .unset, .unset, .unset, .unset, .unset]) rfl ?_
    refine XS.iloadN X6.here hx rfl (hb hby at_20) rfl ?_
    exact kt
  obtain ⟨_, _, ⟨T8, L8, k8, n8⟩, -, X8, ⟨Lc8, hQ8, l8, y8, z8⟩, st8⟩ := Jvm.LawKit.callS X6 hx (y := yn0) hown (mvT hZ (ow hw 1 rfl)) (mvT hZ (ow hw 2 rfl)) (mvT hZ (ow hw 3 rfl)) (mvT hZ (ow hw 4 rfl)) (by decide) (backOf (W := 0) (rm1 l Z a0 hw [] wc h0 n0 Z0 ) hZ (ow hw 4 rfl) (ow hw 3 rfl) (by decide) (by decide)) (g := (mkF m 21 #[.val (.int wl), .val (.int wa), .val (.int wb), .val (.int wc), .val (.int wd), .val (.int vl), .val (.int c0), .val (.int c1), .unset, .unset, .unset, .unset, .unset, .unset, .unset, .unset] [(.int wc)])) rfl (by rw [hml]; rfl) (argsL := [(.int wc)]) (rest := []) (lenOf pd_20 rfl) rfl (by exact Nat.le_of_eq rfl) (hb hby at_21) (fun _ _ => ⟨rfl, e6, (by decide : 0 + 0 ≤ _), (by decide : 0 + 0 ≤ _)⟩)
  dsimp only [Pt.U, Pt.locs, Pt.cells, Pt.slots] at X8 l8 y8 z8 st8 hQ8
  rw [l8, y8, z8] at X8
  obtain ⟨c2, rfl, hc2, N8q, e8⟩ := hQ8
  have N8 := Fr.app N6 N8q
  have pre9 : oP p e below (T8.setTop (mkF m 28 #[.val (.int wl), .val (.int wa), .val (.int wb), .val (.int wc), .val (.int wd), .val (.int vl), .val (.int c0), .val (.int c1), .val (.int c2), .unset, .unset, .unset, .unset, .unset, .unset, .unset] [(.int wd)])) (SS) := fun t kt => by
    refine pre7 _ ?_
    refine st8 _ ?_
    refine XS.istore X8.here hx rfl (hb hby at_24) rfl (l' := #[.val (.int wl), .val (.int wa), .val (.int wb), .val (.int wc), .val (.int wd), .val (.int vl), .val (.int c0), .val (.int c1), .val (.int c2), .unset, .unset, .unset, .unset, .unset, .unset, .unset]) rfl ?_
    refine XS.iload X8.here hx rfl (hb hby at_26) rfl ?_
    exact kt
  obtain ⟨_, _, ⟨T10, L10, k10, n10⟩, -, X10, ⟨Lc10, hQ10, l10, y10, z10⟩, st10⟩ := Jvm.LawKit.callS X8 hx (y := yn0) hown (mvT hZ (ow hw 1 rfl)) (mvT hZ (ow hw 2 rfl)) (mvT hZ (ow hw 3 rfl)) (mvT hZ (ow hw 4 rfl)) (by decide) (backOf (W := 0) (rm1 l Z a0 hw [] wd h0 n0 Z0 ) hZ (ow hw 4 rfl) (ow hw 3 rfl) (by decide) (by decide)) (g := (mkF m 28 #[.val (.int wl), .val (.int wa), .val (.int wb), .val (.int wc), .val (.int wd), .val (.int vl), .val (.int c0), .val (.int c1), .val (.int c2), .unset, .unset, .unset, .unset, .unset, .unset, .unset] [(.int wd)])) rfl (by rw [hml]; rfl) (argsL := [(.int wd)]) (rest := []) (lenOf pd_20 rfl) rfl (by exact Nat.le_of_eq rfl) (hb hby at_28) (fun _ _ => ⟨rfl, e8, (by decide : 0 + 0 ≤ _), (by decide : 0 + 0 ≤ _)⟩)
  dsimp only [Pt.U, Pt.locs, Pt.cells, Pt.slots] at X10 l10 y10 z10 st10 hQ10
  rw [l10, y10, z10] at X10
  obtain ⟨c3, rfl, hc3, N10q, e10⟩ := hQ10
  have N10 := Fr.app N8 N10q
  have hsp11 : vl = (0 : Int32) ∨ vl = (1 : Int32) ∨ vl = (2 : Int32) ∨ vl = (3 : Int32) ∨ vl = (4 : Int32) := by
    have q : vl.toInt = 0 ∨ vl.toInt = 1 ∨ vl.toInt = 2 ∨ vl.toInt = 3 ∨ vl.toInt = 4 := by omega
    rcases q with q | q | q | q | q
    · exact Or.inl (Int32.toInt_inj.mp (by rw [q]; decide))
    · exact Or.inr (Or.inl (Int32.toInt_inj.mp (by rw [q]; decide)))
    · exact Or.inr (Or.inr (Or.inl (Int32.toInt_inj.mp (by rw [q]; decide))))
    · exact Or.inr (Or.inr (Or.inr (Or.inl (Int32.toInt_inj.mp (by rw [q]; decide)))))
    · exact Or.inr (Or.inr (Or.inr (Or.inr (Int32.toInt_inj.mp (by rw [q]; decide)))))
  have pre12 : oP p e below (T10.setTop (mkF m 33 #[.val (.int wl), .val (.int wa), .val (.int wb), .val (.int wc), .val (.int wd), .val (.int vl), .val (.int c0), .val (.int c1), .val (.int c2), .val (.int c3), .unset, .unset, .unset, .unset, .unset, .unset] [])) (SS) := fun t kt => by
    refine pre9 _ ?_
    refine st10 _ ?_
    refine XS.istore X10.here hx rfl (hb hby at_31) rfl (l' := #[.val (.int wl), .val (.int wa), .val (.int wb), .val (.int wc), .val (.int wd), .val (.int vl), .val (.int c0), .val (.int c1), .val (.int c2), .val (.int c3), .unset, .unset, .unset, .unset, .unset, .unset]) rfl ?_
    exact kt
  rcases hsp11 with rfl | rfl | rfl | rfl | rfl
  · have pre13 : oP p e below (T10.setTop (mkF m 33 #[.val (.int wl), .val (.int wa), .val (.int wb), .val (.int wc), .val (.int wd), .val (.int 0), .val (.int c0), .val (.int c1), .val (.int c2), .val (.int c3), .unset, .unset, .unset, .unset, .unset, .unset] [])) (SS) := pre12
    have hc35_14 : (0 : Int) = (0 : Int) := by decide
    obtain ⟨T15, h15, k15, X15, e15, E15, A15, st15⟩ := newP X10 hx hZ (ow hw 5 rfl) e10 (g := (mkF m 39 #[.val (.int wl), .val (.int wa), .val (.int wb), .val (.int wc), .val (.int wd), .val (.int 0), .val (.int c0), .val (.int c1), .val (.int c2), .val (.int c3), .unset, .unset, .unset, .unset, .unset, .unset] [(.int 0)])) rfl (hb hby at_39) rfl (by decide) (cap := 0) (by decide) (by decide) (by decide) (by decide)
    obtain ⟨b15, g15⟩ : ∃ z, z = h0.size := ⟨_, rfl⟩
    have g_b15 : n0 ≤ b15 := Nat.le_trans Z0 (Nat.le_of_eq g15.symm)
    have sz_b15 : h0.size ≤ b15 := Nat.le_trans (Keep.refl h0 []).1 (Nat.le_of_eq g15.symm)
    have sf16 : Safe Z own_EL s.vm h0 b15 := Safe.new (Nat.le_of_eq g15.symm)
    rw [← g15] at A15 st15
    have sf17 := (Safe.ext E15 CR0.1 sf16)
    have CR18 := (CR0.trans (CHr.ext E15 CR0.1))
    have hk19 := Nat.le_trans hk0 E15.1
    have Zs20 : n0 ≤ h15.size := Nat.le_trans Z0 E15.1
    have V15 : Arv Z h15 b15 k15 .char (0 : Int32) [] (.int 0) := (Arv.new A15 (by decide)).pad (pad_rep [] (.int 0) 0)
    obtain ⟨T21, h21, X21, e21, E21, A21, D21, -, st21⟩ := newO X15 hx hZ hown (ow hw 6 rfl) (ow hw 7 rfl) (ow hw 8 rfl) e15 (g := (mkF m 143 #[.val (.int wl), .val (.int wa), .val (.int wb), .val (.int wc), .val (.int wd), .val (.int 0), .val (.int c0), .val (.int c1), .val (.int c2), .val (.int c3), .val (.ref b15), .unset, .unset, .unset, .unset, .unset] [])) rfl (hb hby at_143) (by decide) (by decide)
    obtain ⟨b21, g21⟩ : ∃ z, z = h15.size := ⟨_, rfl⟩
    have ne_b15_b21 : b15 ≠ b21 := Nat.ne_of_lt (Nat.lt_of_lt_of_le V15.lt (Nat.le_of_eq g21.symm))
    have g_b21 : n0 ≤ b21 := Nat.le_trans Zs20 (Nat.le_of_eq g21.symm)
    have f22 := ((Keep.refl h0 []).ext E15)
    have sz_b21 : h0.size ≤ b21 := Nat.le_trans f22.1 (Nat.le_of_eq g21.symm)
    have sf23 : Safe Z own_EL s.vm h15 b21 := Safe.new (Nat.le_of_eq g21.symm)
    rw [← g21] at A21 D21 st21
    have sf24 := (Safe.ext E21 CR18.1 sf17)
    have sf25 := (Safe.ext E21 CR18.1 sf23)
    have CR26 := (CR18.trans (CHr.ext E21 CR18.1))
    have hk27 := Nat.le_trans hk19 E21.1
    have Zs28 : n0 ≤ h21.size := Nat.le_trans Zs20 E21.1
    have F21_value : Fld Z h21 b21 "java/lang/String" "value" "[B" .null := D21 (Or.inr (ow hw 21 rfl)) (ty := (.array .byte)) (by decide)
    have F21_coder : Fld Z h21 b21 "java/lang/String" "coder" "B" (.int 0) := D21 (Or.inr (ow hw 22 rfl)) (ty := .byte) (by decide)
    have pre29 : oP p e below (T21.setTop (mkF m 149 #[.val (.int wl), .val (.int wa), .val (.int wb), .val (.int wc), .val (.int wd), .val (.int 0), .val (.int c0), .val (.int c1), .val (.int c2), .val (.int c3), .val (.ref b15), .unset, .unset, .unset, .unset, .unset] [(.ref b15), (.ref b21), (.ref b21)])) (SS) := fun t kt => by
      refine pre13 _ ?_
      refine XS.iload X10.here hx rfl (hb hby at_33) rfl ?_
      show Steps p.tables e below (T10.setTop (mkF m 35 #[.val (.int wl), .val (.int wa), .val (.int wb), .val (.int wc), .val (.int wd), .val (.int 0), .val (.int c0), .val (.int c1), .val (.int c2), .val (.int c3), .unset, .unset, .unset, .unset, .unset, .unset] [(.int 0)])) _
      refine XS.ifNo X10.here hx rfl (hb hby at_35) rfl (own_if (own_teq (a := (0 : Int32)) (b := (0 : Int32)) (by decide) (by decide) hc35_14).2) ?_
      refine XS.iconst X10.here hx rfl (hb hby at_38) ?_
      refine st15 _ ?_
      refine XS.astore X15.here hx rfl (hb hby at_41) rfl rfl (l' := #[.val (.int wl), .val (.int wa), .val (.int wb), .val (.int wc), .val (.int wd), .val (.int 0), .val (.int c0), .val (.int c1), .val (.int c2), .val (.int c3), .val (.ref b15), .unset, .unset, .unset, .unset, .unset]) rfl ?_
      refine XS.goto X15.here hx rfl (pc0 := 43) (pc' := 143) rfl (hb hby at_43) (by decide) (by decide) ?_
      refine st21 _ ?_
      refine XS.dup X21.here hx rfl (hb hby at_146) rfl rfl ?_
      refine XS.aload X21.here hx rfl (hb hby at_147) rfl rfl ?_
      exact kt
    have os30 := (own_st_ext (own_st_ext Os E15) E21)
    have f31 := (V15.ext E21)
    obtain ⟨_, _, ⟨T32, L32, k32, n32⟩, -, Xp32, hSp32, hgp32, ⟨Lc32, hQ32, l32, y32, z32, CRn32⟩, st32⟩ := X21.specialBackS hx (y := yn31) rfl hown (mvT hZ (ow hw 9 rfl)) (mvT hZ (ow hw 10 rfl)) (mvT hZ (ow hw 11 rfl)) (by decide) (backOfSH (W := 1) (rm_mk0 l Z a0 hw [] b21 b15 vcs vf k15 h21 n0 Zs28 os30 A21 F21_coder F21_value g_b21 (Ne.symm ne_b15_b21) f31) hZ (ow hw 11 rfl) (ow hw 8 rfl) (by decide) (by decide) hEL CR26.1) (g := (mkF m 149 #[.val (.int wl), .val (.int wa), .val (.int wb), .val (.int wc), .val (.int wd), .val (.int 0), .val (.int c0), .val (.int c1), .val (.int c2), .val (.int c3), .val (.ref b15), .unset, .unset, .unset, .unset, .unset] [(.ref b15), (.ref b21), (.ref b21)])) rfl (by rw [hml]; rfl) (Steps.refl _) (a := b21) (argsL := [(.ref b15)]) (rest := [(.ref b21)]) (lenOf pd_21 rfl) rfl (by exact Nat.le_of_eq rfl) (hb hby at_149) (fun _ _ => ⟨rfl, e21, (by decide : 2 + 4 ≤ _), (by decide : 4 + 8 ≤ _)⟩)
    dsimp only [Pt.U, Pt.locs, Pt.cells, Pt.slots] at Xp32 hSp32 hgp32 l32 y32 z32 st32 hQ32 CRn32
    rw [l32, y32, z32] at Xp32
    obtain ⟨X32, hS32, hZ, hown⟩ := rebS hS0 (n1 := T21.heap.size) (by rw [e21]; exact hk27) Xp32 hSp32 hgp32 hZ hown
    have sf33 := CRn32.safe f31.lt sf24
    have sf34 := CRn32.safe A21.lt sf25
    have CR35 := CR26.trans CRn32
    obtain ⟨rfl, N32q, K32, A32, ob32, kb32, Fc32, Fv32, Vb32⟩ := hQ32
    have N32 := Fr.app N10 N32q
    have Zs36 : n0 ≤ T32.heap.size := Nat.le_trans Zs28 K32.1
    have pre37 : oP p e below (T32.setTop (mkF m 154 #[.val (.int wl), .val (.int wa), .val (.int wb), .val (.int wc), .val (.int wd), .val (.int 0), .val (.int c0), .val (.int c1), .val (.int c2), .val (.int c3), .val (.ref b15), .val (.ref b21), .unset, .unset, .unset, .unset] [])) (SS) := fun t kt => by
      refine pre29 _ ?_
      refine st32.trans ?_
      refine XS.astore X32.here hx rfl (hb hby at_152) rfl rfl (l' := #[.val (.int wl), .val (.int wa), .val (.int wb), .val (.int wc), .val (.int wd), .val (.int 0), .val (.int c0), .val (.int c1), .val (.int c2), .val (.int c3), .val (.ref b15), .val (.ref b21), .unset, .unset, .unset, .unset]) rfl ?_
      exact kt
    obtain ⟨vn, hvn, pre43⟩ : ∃ vn : Int32, ((vn.toInt = 1 ∧ ((0 : Int) = 1)) ∨ (vn.toInt = 0 ∧ ¬ ((0 : Int) = 1))) ∧ ∀ t, Steps p.tables e below (T32.setTop (mkF m 202 #[.val (.int wl), .val (.int wa), .val (.int wb), .val (.int wc), .val (.int wd), .val (.int 0), .val (.int c0), .val (.int c1), .val (.int c2), .val (.int c3), .val (.ref b15), .val (.ref b21), .unset, .unset, .unset, .unset] [(.int vn)])) t → Steps p.tables e below (SS) t := by
      have hc156_38 : ¬ ((0 : Int) < (0 : Int)) := by decide
      have hc167_39 : ¬ ((1 : Int) < (0 : Int)) := by decide
      have hc178_40 : ¬ ((2 : Int) < (0 : Int)) := by decide
      have hc189_41 : ¬ ((3 : Int) < (0 : Int)) := by decide
      have pre42 : oP p e below (T32.setTop (mkF m 202 #[.val (.int wl), .val (.int wa), .val (.int wb), .val (.int wc), .val (.int wd), .val (.int 0), .val (.int c0), .val (.int c1), .val (.int c2), .val (.int c3), .val (.ref b15), .val (.ref b21), .unset, .unset, .unset, .unset] [(.int 0)])) (SS) := fun t kt => by
        refine pre37 _ ?_
        refine XS.iload X32.here hx rfl (hb hby at_154) rfl ?_
        refine XS.ifYes X32.here hx rfl (pc0 := 156) (pc' := 164) rfl (hb hby at_156) rfl (own_if (own_flt (a := (0 : Int32)) (b := (0 : Int32)) (by decide) (by decide) hc156_38).2.2.2) (by decide) (by decide) ?_
        refine XS.iload X32.here hx rfl (hb hby at_164) rfl ?_
        refine XS.iconst X32.here hx rfl (hb hby at_166) ?_
        refine XS.icmpYes X32.here hx rfl (pc0 := 167) (pc' := 175) rfl (hb hby at_167) rfl (own_flt (a := (1 : Int32)) (b := (0 : Int32)) (by decide) (by decide) hc167_39).2.2.2 (by decide) (by decide) ?_
        refine XS.iload X32.here hx rfl (hb hby at_175) rfl ?_
        refine XS.iconst X32.here hx rfl (hb hby at_177) ?_
        refine XS.icmpYes X32.here hx rfl (pc0 := 178) (pc' := 186) rfl (hb hby at_178) rfl (own_flt (a := (2 : Int32)) (b := (0 : Int32)) (by decide) (by decide) hc178_40).2.2.2 (by decide) (by decide) ?_
        refine XS.iload X32.here hx rfl (hb hby at_186) rfl ?_
        refine XS.iconst X32.here hx rfl (hb hby at_188) ?_
        show Steps p.tables e below (T32.setTop (mkF m 189 #[.val (.int wl), .val (.int wa), .val (.int wb), .val (.int wc), .val (.int wd), .val (.int 0), .val (.int c0), .val (.int c1), .val (.int c2), .val (.int c3), .val (.ref b15), .val (.ref b21), .unset, .unset, .unset, .unset] [(.int 3), (.int 0)])) _
        refine XS.icmpYes X32.here hx rfl (pc0 := 189) (pc' := 201) rfl (hb hby at_189) rfl (own_flt (a := (3 : Int32)) (b := (0 : Int32)) (by decide) (by decide) hc189_41).2.2.2 (by decide) (by decide) ?_
        refine XS.iconst X32.here hx rfl (hb hby at_201) ?_
        exact kt
      exact ⟨(0 : Int32), by have iv : ((0 : Int32)).toInt = (0 : Int) := (by decide); omega, pre42⟩
    have pre44 : oP p e below (T32.setTop (mkF m 204 #[.val (.int wl), .val (.int wa), .val (.int wb), .val (.int wc), .val (.int wd), .val (.int 0), .val (.int c0), .val (.int c1), .val (.int c2), .val (.int c3), .val (.ref b15), .val (.ref b21), .val (.int vn), .unset, .unset, .unset] [])) (SS) := fun t kt => by
      refine pre43 _ ?_
      refine XS.istore X32.here hx rfl (hb hby at_202) rfl (l' := #[.val (.int wl), .val (.int wa), .val (.int wb), .val (.int wc), .val (.int wd), .val (.int 0), .val (.int c0), .val (.int c1), .val (.int c2), .val (.int c3), .val (.ref b15), .val (.ref b21), .val (.int vn), .unset, .unset, .unset]) rfl ?_
      exact kt
    obtain ⟨vdt, hvdt, pre47⟩ : ∃ vdt : Int32, ((vdt.toInt = 1 ∧ ((0 : Int) = 1)) ∨ (vdt.toInt = 0 ∧ ¬ ((0 : Int) = 1))) ∧ ∀ t, Steps p.tables e below (T32.setTop (mkF m 222 #[.val (.int wl), .val (.int wa), .val (.int wb), .val (.int wc), .val (.int wd), .val (.int 0), .val (.int c0), .val (.int c1), .val (.int c2), .val (.int c3), .val (.ref b15), .val (.ref b21), .val (.int vn), .unset, .unset, .unset] [(.int vdt)])) t → Steps p.tables e below (SS) t := by
      have hc207_45 : ¬ ((0 : Int) = (1 : Int)) := by decide
      have pre46 : oP p e below (T32.setTop (mkF m 222 #[.val (.int wl), .val (.int wa), .val (.int wb), .val (.int wc), .val (.int wd), .val (.int 0), .val (.int c0), .val (.int c1), .val (.int c2), .val (.int c3), .val (.ref b15), .val (.ref b21), .val (.int vn), .unset, .unset, .unset] [(.int 0)])) (SS) := fun t kt => by
        refine pre44 _ ?_
        refine XS.iload X32.here hx rfl (hb hby at_204) rfl ?_
        refine XS.iconst X32.here hx rfl (hb hby at_206) ?_
        refine XS.icmpYes X32.here hx rfl (pc0 := 207) (pc' := 221) rfl (hb hby at_207) rfl (own_feq (a := (0 : Int32)) (b := (1 : Int32)) (by decide) (by decide) hc207_45).2 (by decide) (by decide) ?_
        refine XS.iconst X32.here hx rfl (hb hby at_221) ?_
        exact kt
      exact ⟨(0 : Int32), by have iv : ((0 : Int32)).toInt = (0 : Int) := (by decide); omega, pre46⟩
    have pre48 : oP p e below (T32.setTop (mkF m 224 #[.val (.int wl), .val (.int wa), .val (.int wb), .val (.int wc), .val (.int wd), .val (.int 0), .val (.int c0), .val (.int c1), .val (.int c2), .val (.int c3), .val (.ref b15), .val (.ref b21), .val (.int vn), .val (.int vdt), .unset, .unset] [])) (SS) := fun t kt => by
      refine pre47 _ ?_
      refine XS.istore X32.here hx rfl (hb hby at_222) rfl (l' := #[.val (.int wl), .val (.int wa), .val (.int wb), .val (.int wc), .val (.int wd), .val (.int 0), .val (.int c0), .val (.int c1), .val (.int c2), .val (.int c3), .val (.ref b15), .val (.ref b21), .val (.int vn), .val (.int vdt), .unset, .unset]) rfl ?_
      exact kt
    obtain ⟨vdd, hvdd, pre51⟩ : ∃ vdd : Int32, ((vdd.toInt = 1 ∧ ((0 : Int) = 1)) ∨ (vdd.toInt = 0 ∧ ¬ ((0 : Int) = 1))) ∧ ∀ t, Steps p.tables e below (T32.setTop (mkF m 249 #[.val (.int wl), .val (.int wa), .val (.int wb), .val (.int wc), .val (.int wd), .val (.int 0), .val (.int c0), .val (.int c1), .val (.int c2), .val (.int c3), .val (.ref b15), .val (.ref b21), .val (.int vn), .val (.int vdt), .unset, .unset] [(.int vdd)])) t → Steps p.tables e below (SS) t := by
      have hc227_49 : ¬ ((0 : Int) = (2 : Int)) := by decide
      have pre50 : oP p e below (T32.setTop (mkF m 249 #[.val (.int wl), .val (.int wa), .val (.int wb), .val (.int wc), .val (.int wd), .val (.int 0), .val (.int c0), .val (.int c1), .val (.int c2), .val (.int c3), .val (.ref b15), .val (.ref b21), .val (.int vn), .val (.int vdt), .unset, .unset] [(.int 0)])) (SS) := fun t kt => by
        refine pre48 _ ?_
        refine XS.iload X32.here hx rfl (hb hby at_224) rfl ?_
        refine XS.iconst X32.here hx rfl (hb hby at_226) ?_
        refine XS.icmpYes X32.here hx rfl (pc0 := 227) (pc' := 248) rfl (hb hby at_227) rfl (own_feq (a := (0 : Int32)) (b := (2 : Int32)) (by decide) (by decide) hc227_49).2 (by decide) (by decide) ?_
        refine XS.iconst X32.here hx rfl (hb hby at_248) ?_
        exact kt
      exact ⟨(0 : Int32), by have iv : ((0 : Int32)).toInt = (0 : Int) := (by decide); omega, pre50⟩
    have pre52 : oP p e below (T32.setTop (mkF m 251 #[.val (.int wl), .val (.int wa), .val (.int wb), .val (.int wc), .val (.int wd), .val (.int 0), .val (.int c0), .val (.int c1), .val (.int c2), .val (.int c3), .val (.ref b15), .val (.ref b21), .val (.int vn), .val (.int vdt), .val (.int vdd), .unset] [])) (SS) := fun t kt => by
      refine pre51 _ ?_
      refine XS.istore X32.here hx rfl (hb hby at_249) rfl (l' := #[.val (.int wl), .val (.int wa), .val (.int wb), .val (.int wc), .val (.int wd), .val (.int 0), .val (.int c0), .val (.int c1), .val (.int c2), .val (.int c3), .val (.ref b15), .val (.ref b21), .val (.int vn), .val (.int vdt), .val (.int vdd), .unset]) rfl ?_
      exact kt
    obtain ⟨vex, hvex, pre55⟩ : ∃ vex : Int32, ((vex.toInt = 1 ∧ ((0 : Int) = 1)) ∨ (vex.toInt = 0 ∧ ¬ ((0 : Int) = 1))) ∧ ∀ t, Steps p.tables e below (T32.setTop (mkF m 276 #[.val (.int wl), .val (.int wa), .val (.int wb), .val (.int wc), .val (.int wd), .val (.int 0), .val (.int c0), .val (.int c1), .val (.int c2), .val (.int c3), .val (.ref b15), .val (.ref b21), .val (.int vn), .val (.int vdt), .val (.int vdd), .unset] [(.int vex)])) t → Steps p.tables e below (SS) t := by
      have hc253_53 : ¬ ((0 : Int) < (0 : Int)) := by decide
      have pre54 : oP p e below (T32.setTop (mkF m 276 #[.val (.int wl), .val (.int wa), .val (.int wb), .val (.int wc), .val (.int wd), .val (.int 0), .val (.int c0), .val (.int c1), .val (.int c2), .val (.int c3), .val (.ref b15), .val (.ref b21), .val (.int vn), .val (.int vdt), .val (.int vdd), .unset] [(.int 0)])) (SS) := fun t kt => by
        refine pre52 _ ?_
        refine XS.iload X32.here hx rfl (hb hby at_251) rfl ?_
        refine XS.ifYes X32.here hx rfl (pc0 := 253) (pc' := 275) rfl (hb hby at_253) rfl (own_if (own_flt (a := (0 : Int32)) (b := (0 : Int32)) (by decide) (by decide) hc253_53).2.2.2) (by decide) (by decide) ?_
        refine XS.iconst X32.here hx rfl (hb hby at_275) ?_
        exact kt
      exact ⟨(0 : Int32), by have iv : ((0 : Int32)).toInt = (0 : Int) := (by decide); omega, pre54⟩
    have pre56 : oP p e below (T32.setTop (mkF m 280 #[.val (.int wl), .val (.int wa), .val (.int wb), .val (.int wc), .val (.int wd), .val (.int 0), .val (.int c0), .val (.int c1), .val (.int c2), .val (.int c3), .val (.ref b15), .val (.ref b21), .val (.int vn), .val (.int vdt), .val (.int vdd), .val (.int vex)] [(.ref b21)])) (SS) := fun t kt => by
      refine pre55 _ ?_
      refine XS.istore X32.here hx rfl (hb hby at_276) rfl (l' := #[.val (.int wl), .val (.int wa), .val (.int wb), .val (.int wc), .val (.int wd), .val (.int 0), .val (.int c0), .val (.int c1), .val (.int c2), .val (.int c3), .val (.ref b15), .val (.ref b21), .val (.int vn), .val (.int vdt), .val (.int vdd), .val (.int vex)]) rfl ?_
      refine XS.aload X32.here hx rfl (hb hby at_278) rfl rfl ?_
      exact kt
    obtain ⟨_, _, ⟨T57, L57, k57, n57⟩, -, X57, ⟨Lc57, hQ57, l57, y57, z57⟩, st57⟩ := Jvm.LawKit.callS X32 hx (y := yn22) hown (mvT hZ (ow hw 27 rfl)) (mvT hZ (ow hw 28 rfl)) (mvT hZ (ow hw 29 rfl)) (mvT hZ (ow hw 30 rfl)) (by decide) (backOf (W := 0) (rm_nm0 l Z a0 hw [] b21 ob32 kb32 T32.heap n0 Zs36 A32 Fv32 Vb32) hZ (ow hw 30 rfl) (ow hw 29 rfl) (by decide) (by decide)) (g := (mkF m 280 #[.val (.int wl), .val (.int wa), .val (.int wb), .val (.int wc), .val (.int wd), .val (.int 0), .val (.int c0), .val (.int c1), .val (.int c2), .val (.int c3), .val (.ref b15), .val (.ref b21), .val (.int vn), .val (.int vdt), .val (.int vdd), .val (.int vex)] [(.ref b21)])) rfl (by rw [hml]; rfl) (argsL := [(.ref b21)]) (rest := []) (lenOf pd_22 rfl) rfl (by exact Nat.le_of_eq rfl) (hb hby at_280) (fun _ _ => ⟨rfl, rfl, (by decide : 6 + 0 ≤ _), (by decide : 12 + 0 ≤ _)⟩)
    dsimp only [Pt.U, Pt.locs, Pt.cells, Pt.slots] at X57 l57 y57 z57 st57 hQ57
    rw [l57, y57, z57] at X57
    obtain ⟨zu, rfl, hzu, N57q, e57⟩ := hQ57
    have N57 := Fr.app N32 N57q
    have hc285_58 : zu.toInt = vex.toInt := by omega
    subst hSS
    obtain ⟨fs, hr, hrun, hended, hREW⟩ := X57.leaveW hS32 (by rw [e57]; exact (Nat.le_refl T32.heap.size)) (v := some (.int 1)) (fun h => by rw [Bd.returns] at h; cases h)
    refine ⟨_, _, pre56 _ ?_, hrun, hended, _, _, rfl, ?_, ?_, ⟨hREW.1, hREW.2.1, hREW.2.2.1, hREW.2.2.2.mono (by decide) (by decide)⟩⟩
    · refine st57 _ ?_
      refine XS.iload X57.here hx rfl (hb hby at_283) rfl ?_
      refine XS.icmpNo X57.here hx rfl (hb hby at_285) rfl (own_teq (a := zu) (b := vex) rfl rfl hc285_58).2 ?_
      refine XS.iconst X57.here hx rfl (hb hby at_288) ?_
      refine XS.goto X57.here hx rfl (pc0 := 289) (pc' := 293) rfl (hb hby at_289) (by decide) (by decide) ?_
      show Steps p.tables e below (T57.setTop (mkF m 293 #[.val (.int wl), .val (.int wa), .val (.int wb), .val (.int wc), .val (.int wd), .val (.int 0), .val (.int c0), .val (.int c1), .val (.int c2), .val (.int c3), .val (.ref b15), .val (.ref b21), .val (.int vn), .val (.int vdt), .val (.int vdd), .val (.int vex)] [(.int 1)])) _
      exact retN X57 hx (t := .boolean) Bd.returns (by simp) (hb hby at_293) hr
    · show Q0 Z _ _ _ _ _ _ _ h0 n0 _ T57.heap _
      rw [e57]
      exact ⟨rfl, N57⟩
    · show CHr Z own_EL s.vm s.heap T57.vm T57.heap
      rw [hh, e57]
      exact CR35.trans (CHv.at X57 hZ hEL CR35.1)
  · have pre59 : oP p e below (T10.setTop (mkF m 33 #[.val (.int wl), .val (.int wa), .val (.int wb), .val (.int wc), .val (.int wd), .val (.int 1), .val (.int c0), .val (.int c1), .val (.int c2), .val (.int c3), .unset, .unset, .unset, .unset, .unset, .unset] [])) (SS) := pre12
    have hc35_60 : ¬ ((1 : Int) = (0 : Int)) := by decide
    have hc49_61 : (1 : Int) = (1 : Int) := by decide
    obtain ⟨T62, h62, k62, X62, e62, E62, A62, st62⟩ := newP X10 hx hZ (ow hw 5 rfl) e10 (g := (mkF m 53 #[.val (.int wl), .val (.int wa), .val (.int wb), .val (.int wc), .val (.int wd), .val (.int 1), .val (.int c0), .val (.int c1), .val (.int c2), .val (.int c3), .unset, .unset, .unset, .unset, .unset, .unset] [(.int 1)])) rfl (hb hby at_53) rfl (by decide) (cap := 1) (by decide) (by decide) (by decide) (by decide)
    obtain ⟨b62, g62⟩ : ∃ z, z = h0.size := ⟨_, rfl⟩
    have g_b62 : n0 ≤ b62 := Nat.le_trans Z0 (Nat.le_of_eq g62.symm)
    have sz_b62 : h0.size ≤ b62 := Nat.le_trans (Keep.refl h0 []).1 (Nat.le_of_eq g62.symm)
    have sf63 : Safe Z own_EL s.vm h0 b62 := Safe.new (Nat.le_of_eq g62.symm)
    rw [← g62] at A62 st62
    have sf64 := (Safe.ext E62 CR0.1 sf63)
    have CR65 := (CR0.trans (CHr.ext E62 CR0.1))
    have hk66 := Nat.le_trans hk0 E62.1
    have Zs67 : n0 ≤ h62.size := Nat.le_trans Z0 E62.1
    have V62 : Arv Z h62 b62 k62 .char (1 : Int32) [(.int 0)] (.int 0) := (Arv.new A62 (by decide)).pad (pad_rep [] (.int 0) 1)
    obtain ⟨cl68, Ar68, q68, S68, M68, H68, G68⟩ := id V62
    have hin68 : ¬ ((0 : Int32) < 0 ∨ cl68.slots.size ≤ ((0 : Int32)).toNatClampNeg) := inb_of S68 ⟨by decide, by decide⟩
    obtain ⟨T69, h69, X69, e69, W69, st69⟩ := stC X62 hx hZ e62 Ar68 (j := (0 : Int32)) hin68 (g := (mkF m 59 #[.val (.int wl), .val (.int wa), .val (.int wb), .val (.int wc), .val (.int wd), .val (.int 1), .val (.int c0), .val (.int c1), .val (.int c2), .val (.int c3), .unset, .unset, .unset, .unset, .unset, .unset] [(.int c0), (.int 0), (.ref b62), (.ref b62)])) rfl rfl (hb hby at_59)
    have N69 := Fr.snoc X69 N10 g_b62
    have sf70 := (Safe.wr W69 sf64 CR65.1 sf64)
    have CR71 := (CR65.trans (CHr.wr W69 sf64 CR65.1))
    have hk72 := Nat.le_trans hk66 (Nat.le_of_eq W69.size.symm)
    have Zs73 : n0 ≤ h69.size := by rw [W69.size]; exact Zs67
    have V69 : Arv Z h69 b62 k62 .char (1 : Int32) [(.int (nar .char c0))] (.int 0) := Arv.set Ar68 q68 S68 M68 H68 G68 (fits_nar_char _) W69 0 rfl (Nat.le_of_ble_eq_true rfl)
    obtain ⟨T74, h74, X74, e74, E74, A74, D74, -, st74⟩ := newO X69 hx hZ hown (ow hw 6 rfl) (ow hw 7 rfl) (ow hw 8 rfl) e69 (g := (mkF m 143 #[.val (.int wl), .val (.int wa), .val (.int wb), .val (.int wc), .val (.int wd), .val (.int 1), .val (.int c0), .val (.int c1), .val (.int c2), .val (.int c3), .val (.ref b62), .unset, .unset, .unset, .unset, .unset] [])) rfl (hb hby at_143) (by decide) (by decide)
    obtain ⟨b74, g74⟩ : ∃ z, z = h69.size := ⟨_, rfl⟩
    have ne_b62_b74 : b62 ≠ b74 := Nat.ne_of_lt (Nat.lt_of_lt_of_le V69.lt (Nat.le_of_eq g74.symm))
    have g_b74 : n0 ≤ b74 := Nat.le_trans Zs73 (Nat.le_of_eq g74.symm)
    have f75 := (((Keep.refl h0 []).ext E62).wr W69 (Or.inr sz_b62))
    have sz_b74 : h0.size ≤ b74 := Nat.le_trans f75.1 (Nat.le_of_eq g74.symm)
    have sf76 : Safe Z own_EL s.vm h69 b74 := Safe.new (Nat.le_of_eq g74.symm)
    rw [← g74] at A74 D74 st74
    have sf77 := (Safe.ext E74 CR71.1 sf70)
    have sf78 := (Safe.ext E74 CR71.1 sf76)
    have CR79 := (CR71.trans (CHr.ext E74 CR71.1))
    have hk80 := Nat.le_trans hk72 E74.1
    have Zs81 : n0 ≤ h74.size := Nat.le_trans Zs73 E74.1
    have F74_value : Fld Z h74 b74 "java/lang/String" "value" "[B" .null := D74 (Or.inr (ow hw 21 rfl)) (ty := (.array .byte)) (by decide)
    have F74_coder : Fld Z h74 b74 "java/lang/String" "coder" "B" (.int 0) := D74 (Or.inr (ow hw 22 rfl)) (ty := .byte) (by decide)
    have pre82 : oP p e below (T74.setTop (mkF m 149 #[.val (.int wl), .val (.int wa), .val (.int wb), .val (.int wc), .val (.int wd), .val (.int 1), .val (.int c0), .val (.int c1), .val (.int c2), .val (.int c3), .val (.ref b62), .unset, .unset, .unset, .unset, .unset] [(.ref b62), (.ref b74), (.ref b74)])) (SS) := fun t kt => by
      refine pre59 _ ?_
      refine XS.iload X10.here hx rfl (hb hby at_33) rfl ?_
      show Steps p.tables e below (T10.setTop (mkF m 35 #[.val (.int wl), .val (.int wa), .val (.int wb), .val (.int wc), .val (.int wd), .val (.int 1), .val (.int c0), .val (.int c1), .val (.int c2), .val (.int c3), .unset, .unset, .unset, .unset, .unset, .unset] [(.int 1)])) _
      refine XS.ifYes X10.here hx rfl (pc0 := 35) (pc' := 46) rfl (hb hby at_35) rfl (own_if (own_feq (a := (1 : Int32)) (b := (0 : Int32)) (by decide) (by decide) hc35_60).2) (by decide) (by decide) ?_
      refine XS.iload X10.here hx rfl (hb hby at_46) rfl ?_
      refine XS.iconst X10.here hx rfl (hb hby at_48) ?_
      refine XS.icmpNo X10.here hx rfl (hb hby at_49) rfl (own_teq (a := (1 : Int32)) (b := (1 : Int32)) (by decide) (by decide) hc49_61).2 ?_
      refine XS.iconst X10.here hx rfl (hb hby at_52) ?_
      refine st62 _ ?_
      refine XS.dup X62.here hx rfl (hb hby at_55) rfl rfl ?_
      refine XS.iconst X62.here hx rfl (hb hby at_56) ?_
      refine XS.iload X62.here hx rfl (hb hby at_57) rfl ?_
      refine st69 _ ?_
      refine XS.astore X69.here hx rfl (hb hby at_60) rfl rfl (l' := #[.val (.int wl), .val (.int wa), .val (.int wb), .val (.int wc), .val (.int wd), .val (.int 1), .val (.int c0), .val (.int c1), .val (.int c2), .val (.int c3), .val (.ref b62), .unset, .unset, .unset, .unset, .unset]) rfl ?_
      refine XS.goto X69.here hx rfl (pc0 := 62) (pc' := 143) rfl (hb hby at_62) (by decide) (by decide) ?_
      refine st74 _ ?_
      refine XS.dup X74.here hx rfl (hb hby at_146) rfl rfl ?_
      refine XS.aload X74.here hx rfl (hb hby at_147) rfl rfl ?_
      exact kt
    have f83 := (V69.ext E74)
    have hn85 : nar .char c0 = c0 := own_narc c0 hc0.1 hc0.2
    have Vx84 : Arv Z h74 b62 k62 .char (1 : Int32) [(.int c0)] (.int 0) := by
      have q := f83
      rw [hn85] at q; exact q
    have f86 := (f75.ext E74)
    have os87 := (own_st_ext (own_st_wr (own_st_ext Os E62) W69) E74)
    obtain ⟨_, _, ⟨T88, L88, k88, n88⟩, -, X88, ⟨Lc88, hQ88, l88, y88, z88⟩, st88⟩ := X74.specialBack hx (y := yn31) rfl hown (mvT hZ (ow hw 9 rfl)) (mvT hZ (ow hw 10 rfl)) (mvT hZ (ow hw 11 rfl)) (by decide) (backOf (W := 1) (rm_mu1 l Z a0 hw [] b74 b62 vcs vf k62 c0 h74 n0 Zs81 os87 A74 F74_coder F74_value g_b74 (Ne.symm ne_b62_b74) Vx84 hc0.1 hc0.2) hZ (ow hw 11 rfl) (ow hw 8 rfl) (by decide) (by decide)) (g := (mkF m 149 #[.val (.int wl), .val (.int wa), .val (.int wb), .val (.int wc), .val (.int wd), .val (.int 1), .val (.int c0), .val (.int c1), .val (.int c2), .val (.int c3), .val (.ref b62), .unset, .unset, .unset, .unset, .unset] [(.ref b62), (.ref b74), (.ref b74)])) rfl (by rw [hml]; rfl) (Steps.refl _) (a := b74) (argsL := [(.ref b62)]) (rest := [(.ref b74)]) (lenOf pd_21 rfl) rfl (by exact Nat.le_of_eq rfl) (hb hby at_149) (fun _ _ => ⟨rfl, e74, (by decide : 2 + 2 ≤ _), (by decide : 5 + 3 ≤ _)⟩)
    dsimp only [Pt.U, Pt.locs, Pt.cells, Pt.slots] at X88 l88 y88 z88 st88 hQ88
    rw [l88, y88, z88] at X88
    obtain ⟨rfl, N88q, K88, A88, ob, kb, gb, szb, Fv88, hO88⟩ := hQ88
    have N88 := Fr.app N69 N88q
    have sf89 := (Safe.keep K88 (sfS sf78 sf0) CR79.1 sf77)
    have sf90 := (Safe.keep K88 (sfS sf78 sf0) CR79.1 sf78)
    have CR91 := (CR79.trans (CHr.keep K88 (sfS sf78 sf0) CR79.1))
    have hk92 := Nat.le_trans hk80 K88.1
    have Zs93 : n0 ≤ T88.heap.size := Nat.le_trans Zs81 K88.1
    have ne_b62_ob : b62 ≠ ob := Nat.ne_of_lt (Nat.lt_of_lt_of_le Vx84.lt szb)
    have ne_b74_ob : b74 ≠ ob := Nat.ne_of_lt (Nat.lt_of_lt_of_le A74.lt szb)
    have sz_ob : h0.size ≤ ob := Nat.le_trans f86.1 szb
    have Sx88 : own_s1 Z T88.heap b74 ob kb c0 := ⟨A88, Fv88, hO88⟩
    have pre94 : oP p e below (T88.setTop (mkF m 154 #[.val (.int wl), .val (.int wa), .val (.int wb), .val (.int wc), .val (.int wd), .val (.int 1), .val (.int c0), .val (.int c1), .val (.int c2), .val (.int c3), .val (.ref b62), .val (.ref b74), .unset, .unset, .unset, .unset] [])) (SS) := fun t kt => by
      refine pre82 _ ?_
      refine st88.trans ?_
      refine XS.astore X88.here hx rfl (hb hby at_152) rfl rfl (l' := #[.val (.int wl), .val (.int wa), .val (.int wb), .val (.int wc), .val (.int wd), .val (.int 1), .val (.int c0), .val (.int c1), .val (.int c2), .val (.int c3), .val (.ref b62), .val (.ref b74), .unset, .unset, .unset, .unset]) rfl ?_
      exact kt
    obtain ⟨vn, hvn, pre103⟩ : ∃ vn : Int32, ((vn.toInt = 1 ∧ (c0.toInt = 0)) ∨ (vn.toInt = 0 ∧ ¬ (c0.toInt = 0))) ∧ ∀ t, Steps p.tables e below (T88.setTop (mkF m 202 #[.val (.int wl), .val (.int wa), .val (.int wb), .val (.int wc), .val (.int wd), .val (.int 1), .val (.int c0), .val (.int c1), .val (.int c2), .val (.int c3), .val (.ref b62), .val (.ref b74), .unset, .unset, .unset, .unset] [(.int vn)])) t → Steps p.tables e below (SS) t := by
      have hc156_95 : (0 : Int) < (1 : Int) := by decide
      have pre97 : oP p e below (T88.setTop (mkF m 161 #[.val (.int wl), .val (.int wa), .val (.int wb), .val (.int wc), .val (.int wd), .val (.int 1), .val (.int c0), .val (.int c1), .val (.int c2), .val (.int c3), .val (.ref b62), .val (.ref b74), .unset, .unset, .unset, .unset] [(.int c0)])) (SS) := fun t kt => by
        refine pre94 _ ?_
        refine XS.iload X88.here hx rfl (hb hby at_154) rfl ?_
        refine XS.ifNo X88.here hx rfl (hb hby at_156) rfl (own_if (own_tlt (a := (0 : Int32)) (b := (1 : Int32)) (by decide) (by decide) hc156_95).2.2.2) ?_
        refine XS.iload X88.here hx rfl (hb hby at_159) rfl ?_
        exact kt
      by_cases hc161_96 : c0.toInt = (0 : Int)
      · have pre98 : oP p e below (T88.setTop (mkF m 202 #[.val (.int wl), .val (.int wa), .val (.int wb), .val (.int wc), .val (.int wd), .val (.int 1), .val (.int c0), .val (.int c1), .val (.int c2), .val (.int c3), .val (.ref b62), .val (.ref b74), .unset, .unset, .unset, .unset] [(.int 1)])) (SS) := fun t kt => by
          refine pre97 _ ?_
          refine XS.ifYes X88.here hx rfl (pc0 := 161) (pc' := 197) rfl (hb hby at_161) rfl (own_if (own_teq (a := c0) (b := (0 : Int32)) rfl (by decide) hc161_96).1) (by decide) (by decide) ?_
          refine XS.iconst X88.here hx rfl (hb hby at_197) ?_
          refine XS.goto X88.here hx rfl (pc0 := 198) (pc' := 202) rfl (hb hby at_198) (by decide) (by decide) ?_
          exact kt
        exact ⟨(1 : Int32), by have iv : ((1 : Int32)).toInt = (1 : Int) := (by decide); omega, pre98⟩
      · have hc167_99 : ¬ ((1 : Int) < (1 : Int)) := by decide
        have hc178_100 : ¬ ((2 : Int) < (1 : Int)) := by decide
        have hc189_101 : ¬ ((3 : Int) < (1 : Int)) := by decide
        have pre102 : oP p e below (T88.setTop (mkF m 202 #[.val (.int wl), .val (.int wa), .val (.int wb), .val (.int wc), .val (.int wd), .val (.int 1), .val (.int c0), .val (.int c1), .val (.int c2), .val (.int c3), .val (.ref b62), .val (.ref b74), .unset, .unset, .unset, .unset] [(.int 0)])) (SS) := fun t kt => by
          refine pre97 _ ?_
          refine XS.ifNo X88.here hx rfl (hb hby at_161) rfl (own_if (own_feq (a := c0) (b := (0 : Int32)) rfl (by decide) hc161_96).1) ?_
          refine XS.iload X88.here hx rfl (hb hby at_164) rfl ?_
          refine XS.iconst X88.here hx rfl (hb hby at_166) ?_
          refine XS.icmpYes X88.here hx rfl (pc0 := 167) (pc' := 175) rfl (hb hby at_167) rfl (own_flt (a := (1 : Int32)) (b := (1 : Int32)) (by decide) (by decide) hc167_99).2.2.2 (by decide) (by decide) ?_
          refine XS.iload X88.here hx rfl (hb hby at_175) rfl ?_
          refine XS.iconst X88.here hx rfl (hb hby at_177) ?_
          refine XS.icmpYes X88.here hx rfl (pc0 := 178) (pc' := 186) rfl (hb hby at_178) rfl (own_flt (a := (2 : Int32)) (b := (1 : Int32)) (by decide) (by decide) hc178_100).2.2.2 (by decide) (by decide) ?_
          refine XS.iload X88.here hx rfl (hb hby at_186) rfl ?_
          refine XS.iconst X88.here hx rfl (hb hby at_188) ?_
          refine XS.icmpYes X88.here hx rfl (pc0 := 189) (pc' := 201) rfl (hb hby at_189) rfl (own_flt (a := (3 : Int32)) (b := (1 : Int32)) (by decide) (by decide) hc189_101).2.2.2 (by decide) (by decide) ?_
          refine XS.iconst X88.here hx rfl (hb hby at_201) ?_
          exact kt
        exact ⟨(0 : Int32), by have iv : ((0 : Int32)).toInt = (0 : Int) := (by decide); omega, pre102⟩
    have pre104 : oP p e below (T88.setTop (mkF m 204 #[.val (.int wl), .val (.int wa), .val (.int wb), .val (.int wc), .val (.int wd), .val (.int 1), .val (.int c0), .val (.int c1), .val (.int c2), .val (.int c3), .val (.ref b62), .val (.ref b74), .val (.int vn), .unset, .unset, .unset] [])) (SS) := fun t kt => by
      refine pre103 _ ?_
      refine XS.istore X88.here hx rfl (hb hby at_202) rfl (l' := #[.val (.int wl), .val (.int wa), .val (.int wb), .val (.int wc), .val (.int wd), .val (.int 1), .val (.int c0), .val (.int c1), .val (.int c2), .val (.int c3), .val (.ref b62), .val (.ref b74), .val (.int vn), .unset, .unset, .unset]) rfl ?_
      exact kt
    obtain ⟨vdt, hvdt, pre110⟩ : ∃ vdt : Int32, ((vdt.toInt = 1 ∧ (c0.toInt = 46)) ∨ (vdt.toInt = 0 ∧ ¬ (c0.toInt = 46))) ∧ ∀ t, Steps p.tables e below (T88.setTop (mkF m 222 #[.val (.int wl), .val (.int wa), .val (.int wb), .val (.int wc), .val (.int wd), .val (.int 1), .val (.int c0), .val (.int c1), .val (.int c2), .val (.int c3), .val (.ref b62), .val (.ref b74), .val (.int vn), .unset, .unset, .unset] [(.int vdt)])) t → Steps p.tables e below (SS) t := by
      have hc207_105 : (1 : Int) = (1 : Int) := by decide
      have pre107 : oP p e below (T88.setTop (mkF m 214 #[.val (.int wl), .val (.int wa), .val (.int wb), .val (.int wc), .val (.int wd), .val (.int 1), .val (.int c0), .val (.int c1), .val (.int c2), .val (.int c3), .val (.ref b62), .val (.ref b74), .val (.int vn), .unset, .unset, .unset] [(.int 46), (.int c0)])) (SS) := fun t kt => by
        refine pre104 _ ?_
        refine XS.iload X88.here hx rfl (hb hby at_204) rfl ?_
        refine XS.iconst X88.here hx rfl (hb hby at_206) ?_
        show Steps p.tables e below (T88.setTop (mkF m 207 #[.val (.int wl), .val (.int wa), .val (.int wb), .val (.int wc), .val (.int wd), .val (.int 1), .val (.int c0), .val (.int c1), .val (.int c2), .val (.int c3), .val (.ref b62), .val (.ref b74), .val (.int vn), .unset, .unset, .unset] [(.int 1), (.int 1)])) _
        refine XS.icmpNo X88.here hx rfl (hb hby at_207) rfl (own_teq (a := (1 : Int32)) (b := (1 : Int32)) (by decide) (by decide) hc207_105).2 ?_
        refine XS.iload X88.here hx rfl (hb hby at_210) rfl ?_
        refine XS.bipush X88.here hx rfl (hb hby at_212) ?_
        exact kt
      by_cases hc214_106 : c0.toInt = (46 : Int)
      · have pre108 : oP p e below (T88.setTop (mkF m 222 #[.val (.int wl), .val (.int wa), .val (.int wb), .val (.int wc), .val (.int wd), .val (.int 1), .val (.int c0), .val (.int c1), .val (.int c2), .val (.int c3), .val (.ref b62), .val (.ref b74), .val (.int vn), .unset, .unset, .unset] [(.int 1)])) (SS) := fun t kt => by
          refine pre107 _ ?_
          refine XS.icmpNo X88.here hx rfl (hb hby at_214) rfl (own_teq (a := c0) (b := (46 : Int32)) rfl (by decide) hc214_106).2 ?_
          refine XS.iconst X88.here hx rfl (hb hby at_217) ?_
          refine XS.goto X88.here hx rfl (pc0 := 218) (pc' := 222) rfl (hb hby at_218) (by decide) (by decide) ?_
          exact kt
        exact ⟨(1 : Int32), by have iv : ((1 : Int32)).toInt = (1 : Int) := (by decide); omega, pre108⟩
      · have pre109 : oP p e below (T88.setTop (mkF m 222 #[.val (.int wl), .val (.int wa), .val (.int wb), .val (.int wc), .val (.int wd), .val (.int 1), .val (.int c0), .val (.int c1), .val (.int c2), .val (.int c3), .val (.ref b62), .val (.ref b74), .val (.int vn), .unset, .unset, .unset] [(.int 0)])) (SS) := fun t kt => by
          refine pre107 _ ?_
          refine XS.icmpYes X88.here hx rfl (pc0 := 214) (pc' := 221) rfl (hb hby at_214) rfl (own_feq (a := c0) (b := (46 : Int32)) rfl (by decide) hc214_106).2 (by decide) (by decide) ?_
          refine XS.iconst X88.here hx rfl (hb hby at_221) ?_
          exact kt
        exact ⟨(0 : Int32), by have iv : ((0 : Int32)).toInt = (0 : Int) := (by decide); omega, pre109⟩
    have pre111 : oP p e below (T88.setTop (mkF m 224 #[.val (.int wl), .val (.int wa), .val (.int wb), .val (.int wc), .val (.int wd), .val (.int 1), .val (.int c0), .val (.int c1), .val (.int c2), .val (.int c3), .val (.ref b62), .val (.ref b74), .val (.int vn), .val (.int vdt), .unset, .unset] [])) (SS) := fun t kt => by
      refine pre110 _ ?_
      refine XS.istore X88.here hx rfl (hb hby at_222) rfl (l' := #[.val (.int wl), .val (.int wa), .val (.int wb), .val (.int wc), .val (.int wd), .val (.int 1), .val (.int c0), .val (.int c1), .val (.int c2), .val (.int c3), .val (.ref b62), .val (.ref b74), .val (.int vn), .val (.int vdt), .unset, .unset]) rfl ?_
      exact kt
    obtain ⟨vdd, hvdd, pre114⟩ : ∃ vdd : Int32, ((vdd.toInt = 1 ∧ ((0 : Int) = 1)) ∨ (vdd.toInt = 0 ∧ ¬ ((0 : Int) = 1))) ∧ ∀ t, Steps p.tables e below (T88.setTop (mkF m 249 #[.val (.int wl), .val (.int wa), .val (.int wb), .val (.int wc), .val (.int wd), .val (.int 1), .val (.int c0), .val (.int c1), .val (.int c2), .val (.int c3), .val (.ref b62), .val (.ref b74), .val (.int vn), .val (.int vdt), .unset, .unset] [(.int vdd)])) t → Steps p.tables e below (SS) t := by
      have hc227_112 : ¬ ((1 : Int) = (2 : Int)) := by decide
      have pre113 : oP p e below (T88.setTop (mkF m 249 #[.val (.int wl), .val (.int wa), .val (.int wb), .val (.int wc), .val (.int wd), .val (.int 1), .val (.int c0), .val (.int c1), .val (.int c2), .val (.int c3), .val (.ref b62), .val (.ref b74), .val (.int vn), .val (.int vdt), .unset, .unset] [(.int 0)])) (SS) := fun t kt => by
        refine pre111 _ ?_
        refine XS.iload X88.here hx rfl (hb hby at_224) rfl ?_
        show Steps p.tables e below (T88.setTop (mkF m 226 #[.val (.int wl), .val (.int wa), .val (.int wb), .val (.int wc), .val (.int wd), .val (.int 1), .val (.int c0), .val (.int c1), .val (.int c2), .val (.int c3), .val (.ref b62), .val (.ref b74), .val (.int vn), .val (.int vdt), .unset, .unset] [(.int 1)])) _
        refine XS.iconst X88.here hx rfl (hb hby at_226) ?_
        refine XS.icmpYes X88.here hx rfl (pc0 := 227) (pc' := 248) rfl (hb hby at_227) rfl (own_feq (a := (1 : Int32)) (b := (2 : Int32)) (by decide) (by decide) hc227_112).2 (by decide) (by decide) ?_
        refine XS.iconst X88.here hx rfl (hb hby at_248) ?_
        exact kt
      exact ⟨(0 : Int32), by have iv : ((0 : Int32)).toInt = (0 : Int) := (by decide); omega, pre113⟩
    have pre115 : oP p e below (T88.setTop (mkF m 251 #[.val (.int wl), .val (.int wa), .val (.int wb), .val (.int wc), .val (.int wd), .val (.int 1), .val (.int c0), .val (.int c1), .val (.int c2), .val (.int c3), .val (.ref b62), .val (.ref b74), .val (.int vn), .val (.int vdt), .val (.int vdd), .unset] [])) (SS) := fun t kt => by
      refine pre114 _ ?_
      refine XS.istore X88.here hx rfl (hb hby at_249) rfl (l' := #[.val (.int wl), .val (.int wa), .val (.int wb), .val (.int wc), .val (.int wd), .val (.int 1), .val (.int c0), .val (.int c1), .val (.int c2), .val (.int c3), .val (.ref b62), .val (.ref b74), .val (.int vn), .val (.int vdt), .val (.int vdd), .unset]) rfl ?_
      exact kt
    obtain ⟨vex, hvex, pre127⟩ : ∃ vex : Int32, ((vex.toInt = 1 ∧ (¬ c0.toInt = 46 ∧ ¬ (c0.toInt = 0))) ∨ (vex.toInt = 0 ∧ ¬ (¬ c0.toInt = 46 ∧ ¬ (c0.toInt = 0)))) ∧ ∀ t, Steps p.tables e below (T88.setTop (mkF m 276 #[.val (.int wl), .val (.int wa), .val (.int wb), .val (.int wc), .val (.int wd), .val (.int 1), .val (.int c0), .val (.int c1), .val (.int c2), .val (.int c3), .val (.ref b62), .val (.ref b74), .val (.int vn), .val (.int vdt), .val (.int vdd), .unset] [(.int vex)])) t → Steps p.tables e below (SS) t := by
      have hc253_116 : (0 : Int) < (1 : Int) := by decide
      have pre118 : oP p e below (T88.setTop (mkF m 258 #[.val (.int wl), .val (.int wa), .val (.int wb), .val (.int wc), .val (.int wd), .val (.int 1), .val (.int c0), .val (.int c1), .val (.int c2), .val (.int c3), .val (.ref b62), .val (.ref b74), .val (.int vn), .val (.int vdt), .val (.int vdd), .unset] [(.int vdt)])) (SS) := fun t kt => by
        refine pre115 _ ?_
        show Steps p.tables e below (T88.setTop (mkF m 251 #[.val (.int wl), .val (.int wa), .val (.int wb), .val (.int wc), .val (.int wd), .val (.int 1), .val (.int c0), .val (.int c1), .val (.int c2), .val (.int c3), .val (.ref b62), .val (.ref b74), .val (.int vn), .val (.int vdt), .val (.int vdd), .unset] [])) _
        refine XS.iload X88.here hx rfl (hb hby at_251) rfl ?_
        refine XS.ifNo X88.here hx rfl (hb hby at_253) rfl (own_if (own_tlt (a := (0 : Int32)) (b := (1 : Int32)) (by decide) (by decide) hc253_116).2.2.2) ?_
        refine XS.iload X88.here hx rfl (hb hby at_256) rfl ?_
        exact kt
      by_cases hc258_117 : vdt.toInt = (0 : Int)
      · have pre120 : oP p e below (T88.setTop (mkF m 263 #[.val (.int wl), .val (.int wa), .val (.int wb), .val (.int wc), .val (.int wd), .val (.int 1), .val (.int c0), .val (.int c1), .val (.int c2), .val (.int c3), .val (.ref b62), .val (.ref b74), .val (.int vn), .val (.int vdt), .val (.int vdd), .unset] [(.int vdd)])) (SS) := fun t kt => by
          refine pre118 _ ?_
          refine XS.ifNo X88.here hx rfl (hb hby at_258) rfl (own_if (own_teq (a := vdt) (b := (0 : Int32)) rfl (by decide) hc258_117).2) ?_
          refine XS.iload X88.here hx rfl (hb hby at_261) rfl ?_
          exact kt
        by_cases hc263_119 : vdd.toInt = (0 : Int)
        · have pre122 : oP p e below (T88.setTop (mkF m 268 #[.val (.int wl), .val (.int wa), .val (.int wb), .val (.int wc), .val (.int wd), .val (.int 1), .val (.int c0), .val (.int c1), .val (.int c2), .val (.int c3), .val (.ref b62), .val (.ref b74), .val (.int vn), .val (.int vdt), .val (.int vdd), .unset] [(.int vn)])) (SS) := fun t kt => by
            refine pre120 _ ?_
            refine XS.ifNo X88.here hx rfl (hb hby at_263) rfl (own_if (own_teq (a := vdd) (b := (0 : Int32)) rfl (by decide) hc263_119).2) ?_
            refine XS.iload X88.here hx rfl (hb hby at_266) rfl ?_
            exact kt
          by_cases hc268_121 : vn.toInt = (0 : Int)
          · have pre123 : oP p e below (T88.setTop (mkF m 276 #[.val (.int wl), .val (.int wa), .val (.int wb), .val (.int wc), .val (.int wd), .val (.int 1), .val (.int c0), .val (.int c1), .val (.int c2), .val (.int c3), .val (.ref b62), .val (.ref b74), .val (.int vn), .val (.int vdt), .val (.int vdd), .unset] [(.int 1)])) (SS) := fun t kt => by
              refine pre122 _ ?_
              refine XS.ifNo X88.here hx rfl (hb hby at_268) rfl (own_if (own_teq (a := vn) (b := (0 : Int32)) rfl (by decide) hc268_121).2) ?_
              refine XS.iconst X88.here hx rfl (hb hby at_271) ?_
              refine XS.goto X88.here hx rfl (pc0 := 272) (pc' := 276) rfl (hb hby at_272) (by decide) (by decide) ?_
              exact kt
            exact ⟨(1 : Int32), by have iv : ((1 : Int32)).toInt = (1 : Int) := (by decide); omega, pre123⟩
          · have pre124 : oP p e below (T88.setTop (mkF m 276 #[.val (.int wl), .val (.int wa), .val (.int wb), .val (.int wc), .val (.int wd), .val (.int 1), .val (.int c0), .val (.int c1), .val (.int c2), .val (.int c3), .val (.ref b62), .val (.ref b74), .val (.int vn), .val (.int vdt), .val (.int vdd), .unset] [(.int 0)])) (SS) := fun t kt => by
              refine pre122 _ ?_
              refine XS.ifYes X88.here hx rfl (pc0 := 268) (pc' := 275) rfl (hb hby at_268) rfl (own_if (own_feq (a := vn) (b := (0 : Int32)) rfl (by decide) hc268_121).2) (by decide) (by decide) ?_
              refine XS.iconst X88.here hx rfl (hb hby at_275) ?_
              exact kt
            exact ⟨(0 : Int32), by have iv : ((0 : Int32)).toInt = (0 : Int) := (by decide); omega, pre124⟩
        · have pre125 : oP p e below (T88.setTop (mkF m 276 #[.val (.int wl), .val (.int wa), .val (.int wb), .val (.int wc), .val (.int wd), .val (.int 1), .val (.int c0), .val (.int c1), .val (.int c2), .val (.int c3), .val (.ref b62), .val (.ref b74), .val (.int vn), .val (.int vdt), .val (.int vdd), .unset] [(.int 0)])) (SS) := fun t kt => by
            refine pre120 _ ?_
            refine XS.ifYes X88.here hx rfl (pc0 := 263) (pc' := 275) rfl (hb hby at_263) rfl (own_if (own_feq (a := vdd) (b := (0 : Int32)) rfl (by decide) hc263_119).2) (by decide) (by decide) ?_
            refine XS.iconst X88.here hx rfl (hb hby at_275) ?_
            exact kt
          exact ⟨(0 : Int32), by have iv : ((0 : Int32)).toInt = (0 : Int) := (by decide); omega, pre125⟩
      · have pre126 : oP p e below (T88.setTop (mkF m 276 #[.val (.int wl), .val (.int wa), .val (.int wb), .val (.int wc), .val (.int wd), .val (.int 1), .val (.int c0), .val (.int c1), .val (.int c2), .val (.int c3), .val (.ref b62), .val (.ref b74), .val (.int vn), .val (.int vdt), .val (.int vdd), .unset] [(.int 0)])) (SS) := fun t kt => by
          refine pre118 _ ?_
          refine XS.ifYes X88.here hx rfl (pc0 := 258) (pc' := 275) rfl (hb hby at_258) rfl (own_if (own_feq (a := vdt) (b := (0 : Int32)) rfl (by decide) hc258_117).2) (by decide) (by decide) ?_
          refine XS.iconst X88.here hx rfl (hb hby at_275) ?_
          exact kt
        exact ⟨(0 : Int32), by have iv : ((0 : Int32)).toInt = (0 : Int) := (by decide); omega, pre126⟩
    have pre128 : oP p e below (T88.setTop (mkF m 280 #[.val (.int wl), .val (.int wa), .val (.int wb), .val (.int wc), .val (.int wd), .val (.int 1), .val (.int c0), .val (.int c1), .val (.int c2), .val (.int c3), .val (.ref b62), .val (.ref b74), .val (.int vn), .val (.int vdt), .val (.int vdd), .val (.int vex)] [(.ref b74)])) (SS) := fun t kt => by
      refine pre127 _ ?_
      show Steps p.tables e below (T88.setTop (mkF m 276 #[.val (.int wl), .val (.int wa), .val (.int wb), .val (.int wc), .val (.int wd), .val (.int 1), .val (.int c0), .val (.int c1), .val (.int c2), .val (.int c3), .val (.ref b62), .val (.ref b74), .val (.int vn), .val (.int vdt), .val (.int vdd), .unset] [(.int vex)])) _
      refine XS.istore X88.here hx rfl (hb hby at_276) rfl (l' := #[.val (.int wl), .val (.int wa), .val (.int wb), .val (.int wc), .val (.int wd), .val (.int 1), .val (.int c0), .val (.int c1), .val (.int c2), .val (.int c3), .val (.ref b62), .val (.ref b74), .val (.int vn), .val (.int vdt), .val (.int vdd), .val (.int vex)]) rfl ?_
      refine XS.aload X88.here hx rfl (hb hby at_278) rfl rfl ?_
      exact kt
    have os129 := (own_st_keep os87 K88 (nsS A74.nostat ns0))
    have f131 := (Vx84.keep K88 (ninS ne_b62_b74 nin0))
    obtain ⟨_, _, ⟨T130, L130, k130, n130⟩, -, Xp130, hSp130, hgp130, ⟨Lc130, hQ130, l130, y130, z130, CRn130⟩, st130⟩ := callSS X88 hx (y := yn22) hown (mvT hZ (ow hw 27 rfl)) (mvT hZ (ow hw 28 rfl)) (mvT hZ (ow hw 29 rfl)) (mvT hZ (ow hw 30 rfl)) (by decide) (backOfSH (W := 0) (rm_nm1 l Z a0 hw [] b74 vcs vf ob kb c0 T88.heap n0 Zs93 os129 Sx88 hc0.1 hc0.2) hZ (ow hw 30 rfl) (ow hw 29 rfl) (by decide) (by decide) hEL CR91.1) (g := (mkF m 280 #[.val (.int wl), .val (.int wa), .val (.int wb), .val (.int wc), .val (.int wd), .val (.int 1), .val (.int c0), .val (.int c1), .val (.int c2), .val (.int c3), .val (.ref b62), .val (.ref b74), .val (.int vn), .val (.int vdt), .val (.int vdd), .val (.int vex)] [(.ref b74)])) rfl (by rw [hml]; rfl) (argsL := [(.ref b74)]) (rest := []) (lenOf pd_22 rfl) rfl (by exact Nat.le_of_eq rfl) (hb hby at_280) (fun _ _ => ⟨rfl, rfl, (by decide : 4 + 4 ≤ _), (by decide : 8 + 20 ≤ _)⟩)
    dsimp only [Pt.U, Pt.locs, Pt.cells, Pt.slots] at Xp130 hSp130 hgp130 l130 y130 z130 st130 hQ130 CRn130
    rw [l130, y130, z130] at Xp130
    obtain ⟨X130, hS130, hZ, hown⟩ := rebS hS0 (n1 := T88.heap.size) hk92 Xp130 hSp130 hgp130 hZ hown
    have sf132 := CRn130.safe f131.lt sf89
    have sf133 := CRn130.safe A88.lt sf90
    have CR134 := CR91.trans CRn130
    obtain ⟨zu, rfl, hzu, N130q, K130⟩ := hQ130
    have N130 := Fr.app N88 N130q
    have Zs135 : n0 ≤ T130.heap.size := Nat.le_trans Zs93 K130.1
    have hc285_136 : zu.toInt = vex.toInt := by omega
    subst hSS
    obtain ⟨fs, hr, hrun, hended, hREW⟩ := X130.leaveW hS130 (Nat.le_refl T130.heap.size) (v := some (.int 1)) (fun h => by rw [Bd.returns] at h; cases h)
    refine ⟨_, _, pre128 _ ?_, hrun, hended, _, _, rfl, ?_, ?_, ⟨hREW.1, hREW.2.1, hREW.2.2.1, hREW.2.2.2.mono (by decide) (by decide)⟩⟩
    · refine st130.trans ?_
      refine XS.iload X130.here hx rfl (hb hby at_283) rfl ?_
      refine XS.icmpNo X130.here hx rfl (hb hby at_285) rfl (own_teq (a := zu) (b := vex) rfl rfl hc285_136).2 ?_
      refine XS.iconst X130.here hx rfl (hb hby at_288) ?_
      refine XS.goto X130.here hx rfl (pc0 := 289) (pc' := 293) rfl (hb hby at_289) (by decide) (by decide) ?_
      exact retN X130 hx (t := .boolean) Bd.returns (by simp) (hb hby at_293) hr
    · show Q0 Z _ _ _ _ _ _ _ h0 n0 _ T130.heap _
      exact ⟨rfl, N130⟩
    · show CHr Z own_EL s.vm s.heap T130.vm T130.heap
      rw [hh]
      exact CR134.trans (CHv.at X130 hZ hEL CR134.1)
  · have pre137 : oP p e below (T10.setTop (mkF m 33 #[.val (.int wl), .val (.int wa), .val (.int wb), .val (.int wc), .val (.int wd), .val (.int 2), .val (.int c0), .val (.int c1), .val (.int c2), .val (.int c3), .unset, .unset, .unset, .unset, .unset, .unset] [])) (SS) := pre12
    have hc35_138 : ¬ ((2 : Int) = (0 : Int)) := by decide
    have hc49_139 : ¬ ((2 : Int) = (1 : Int)) := by decide
    have hc68_140 : (2 : Int) = (2 : Int) := by decide
    obtain ⟨T141, h141, k141, X141, e141, E141, A141, st141⟩ := newP X10 hx hZ (ow hw 5 rfl) e10 (g := (mkF m 72 #[.val (.int wl), .val (.int wa), .val (.int wb), .val (.int wc), .val (.int wd), .val (.int 2), .val (.int c0), .val (.int c1), .val (.int c2), .val (.int c3), .unset, .unset, .unset, .unset, .unset, .unset] [(.int 2)])) rfl (hb hby at_72) rfl (by decide) (cap := 2) (by decide) (by decide) (by decide) (by decide)
    obtain ⟨b141, g141⟩ : ∃ z, z = h0.size := ⟨_, rfl⟩
    have g_b141 : n0 ≤ b141 := Nat.le_trans Z0 (Nat.le_of_eq g141.symm)
    have sz_b141 : h0.size ≤ b141 := Nat.le_trans (Keep.refl h0 []).1 (Nat.le_of_eq g141.symm)
    have sf142 : Safe Z own_EL s.vm h0 b141 := Safe.new (Nat.le_of_eq g141.symm)
    rw [← g141] at A141 st141
    have sf143 := (Safe.ext E141 CR0.1 sf142)
    have CR144 := (CR0.trans (CHr.ext E141 CR0.1))
    have hk145 := Nat.le_trans hk0 E141.1
    have Zs146 : n0 ≤ h141.size := Nat.le_trans Z0 E141.1
    have V141 : Arv Z h141 b141 k141 .char (2 : Int32) [(.int 0), (.int 0)] (.int 0) := (Arv.new A141 (by decide)).pad (pad_rep [] (.int 0) 2)
    obtain ⟨cl147, Ar147, q147, S147, M147, H147, G147⟩ := id V141
    have hin147 : ¬ ((0 : Int32) < 0 ∨ cl147.slots.size ≤ ((0 : Int32)).toNatClampNeg) := inb_of S147 ⟨by decide, by decide⟩
    obtain ⟨T148, h148, X148, e148, W148, st148⟩ := stC X141 hx hZ e141 Ar147 (j := (0 : Int32)) hin147 (g := (mkF m 78 #[.val (.int wl), .val (.int wa), .val (.int wb), .val (.int wc), .val (.int wd), .val (.int 2), .val (.int c0), .val (.int c1), .val (.int c2), .val (.int c3), .unset, .unset, .unset, .unset, .unset, .unset] [(.int c0), (.int 0), (.ref b141), (.ref b141)])) rfl rfl (hb hby at_78)
    have N148 := Fr.snoc X148 N10 g_b141
    have sf149 := (Safe.wr W148 sf143 CR144.1 sf143)
    have CR150 := (CR144.trans (CHr.wr W148 sf143 CR144.1))
    have hk151 := Nat.le_trans hk145 (Nat.le_of_eq W148.size.symm)
    have Zs152 : n0 ≤ h148.size := by rw [W148.size]; exact Zs146
    have V148 : Arv Z h148 b141 k141 .char (2 : Int32) [(.int (nar .char c0)), (.int 0)] (.int 0) := Arv.set Ar147 q147 S147 M147 H147 G147 (fits_nar_char _) W148 0 rfl (Nat.le_of_ble_eq_true rfl)
    obtain ⟨cl153, Ar153, q153, S153, M153, H153, G153⟩ := id V148
    have hin153 : ¬ ((1 : Int32) < 0 ∨ cl153.slots.size ≤ ((1 : Int32)).toNatClampNeg) := inb_of S153 ⟨by decide, by decide⟩
    obtain ⟨T154, h154, X154, e154, W154, st154⟩ := stC X148 hx hZ e148 Ar153 (j := (1 : Int32)) hin153 (g := (mkF m 83 #[.val (.int wl), .val (.int wa), .val (.int wb), .val (.int wc), .val (.int wd), .val (.int 2), .val (.int c0), .val (.int c1), .val (.int c2), .val (.int c3), .unset, .unset, .unset, .unset, .unset, .unset] [(.int c1), (.int 1), (.ref b141), (.ref b141)])) rfl rfl (hb hby at_83)
    have N154 := Fr.snoc X154 N148 g_b141
    have sf155 := (Safe.wr W154 sf149 CR150.1 sf149)
    have CR156 := (CR150.trans (CHr.wr W154 sf149 CR150.1))
    have hk157 := Nat.le_trans hk151 (Nat.le_of_eq W154.size.symm)
    have Zs158 : n0 ≤ h154.size := by rw [W154.size]; exact Zs152
    have V154 : Arv Z h154 b141 k141 .char (2 : Int32) [(.int (nar .char c0)), (.int (nar .char c1))] (.int 0) := Arv.set Ar153 q153 S153 M153 H153 G153 (fits_nar_char _) W154 1 rfl (Nat.le_of_ble_eq_true rfl)
    obtain ⟨T159, h159, X159, e159, E159, A159, D159, -, st159⟩ := newO X154 hx hZ hown (ow hw 6 rfl) (ow hw 7 rfl) (ow hw 8 rfl) e154 (g := (mkF m 143 #[.val (.int wl), .val (.int wa), .val (.int wb), .val (.int wc), .val (.int wd), .val (.int 2), .val (.int c0), .val (.int c1), .val (.int c2), .val (.int c3), .val (.ref b141), .unset, .unset, .unset, .unset, .unset] [])) rfl (hb hby at_143) (by decide) (by decide)
    obtain ⟨b159, g159⟩ : ∃ z, z = h154.size := ⟨_, rfl⟩
    have ne_b141_b159 : b141 ≠ b159 := Nat.ne_of_lt (Nat.lt_of_lt_of_le V154.lt (Nat.le_of_eq g159.symm))
    have g_b159 : n0 ≤ b159 := Nat.le_trans Zs158 (Nat.le_of_eq g159.symm)
    have f160 := ((((Keep.refl h0 []).ext E141).wr W148 (Or.inr sz_b141)).wr W154 (Or.inr sz_b141))
    have sz_b159 : h0.size ≤ b159 := Nat.le_trans f160.1 (Nat.le_of_eq g159.symm)
    have sf161 : Safe Z own_EL s.vm h154 b159 := Safe.new (Nat.le_of_eq g159.symm)
    rw [← g159] at A159 D159 st159
    have sf162 := (Safe.ext E159 CR156.1 sf155)
    have sf163 := (Safe.ext E159 CR156.1 sf161)
    have CR164 := (CR156.trans (CHr.ext E159 CR156.1))
    have hk165 := Nat.le_trans hk157 E159.1
    have Zs166 : n0 ≤ h159.size := Nat.le_trans Zs158 E159.1
    have F159_value : Fld Z h159 b159 "java/lang/String" "value" "[B" .null := D159 (Or.inr (ow hw 21 rfl)) (ty := (.array .byte)) (by decide)
    have F159_coder : Fld Z h159 b159 "java/lang/String" "coder" "B" (.int 0) := D159 (Or.inr (ow hw 22 rfl)) (ty := .byte) (by decide)
    have pre167 : oP p e below (T159.setTop (mkF m 149 #[.val (.int wl), .val (.int wa), .val (.int wb), .val (.int wc), .val (.int wd), .val (.int 2), .val (.int c0), .val (.int c1), .val (.int c2), .val (.int c3), .val (.ref b141), .unset, .unset, .unset, .unset, .unset] [(.ref b141), (.ref b159), (.ref b159)])) (SS) := fun t kt => by
      refine pre137 _ ?_
      refine XS.iload X10.here hx rfl (hb hby at_33) rfl ?_
      show Steps p.tables e below (T10.setTop (mkF m 35 #[.val (.int wl), .val (.int wa), .val (.int wb), .val (.int wc), .val (.int wd), .val (.int 2), .val (.int c0), .val (.int c1), .val (.int c2), .val (.int c3), .unset, .unset, .unset, .unset, .unset, .unset] [(.int 2)])) _
      refine XS.ifYes X10.here hx rfl (pc0 := 35) (pc' := 46) rfl (hb hby at_35) rfl (own_if (own_feq (a := (2 : Int32)) (b := (0 : Int32)) (by decide) (by decide) hc35_138).2) (by decide) (by decide) ?_
      refine XS.iload X10.here hx rfl (hb hby at_46) rfl ?_
      refine XS.iconst X10.here hx rfl (hb hby at_48) ?_
      refine XS.icmpYes X10.here hx rfl (pc0 := 49) (pc' := 65) rfl (hb hby at_49) rfl (own_feq (a := (2 : Int32)) (b := (1 : Int32)) (by decide) (by decide) hc49_139).2 (by decide) (by decide) ?_
      refine XS.iload X10.here hx rfl (hb hby at_65) rfl ?_
      refine XS.iconst X10.here hx rfl (hb hby at_67) ?_
      refine XS.icmpNo X10.here hx rfl (hb hby at_68) rfl (own_teq (a := (2 : Int32)) (b := (2 : Int32)) (by decide) (by decide) hc68_140).2 ?_
      refine XS.iconst X10.here hx rfl (hb hby at_71) ?_
      refine st141 _ ?_
      refine XS.dup X141.here hx rfl (hb hby at_74) rfl rfl ?_
      refine XS.iconst X141.here hx rfl (hb hby at_75) ?_
      refine XS.iload X141.here hx rfl (hb hby at_76) rfl ?_
      refine st148 _ ?_
      refine XS.dup X148.here hx rfl (hb hby at_79) rfl rfl ?_
      refine XS.iconst X148.here hx rfl (hb hby at_80) ?_
      refine XS.iload X148.here hx rfl (hb hby at_81) rfl ?_
      refine st154 _ ?_
      refine XS.astore X154.here hx rfl (hb hby at_84) rfl rfl (l' := #[.val (.int wl), .val (.int wa), .val (.int wb), .val (.int wc), .val (.int wd), .val (.int 2), .val (.int c0), .val (.int c1), .val (.int c2), .val (.int c3), .val (.ref b141), .unset, .unset, .unset, .unset, .unset]) rfl ?_
      refine XS.goto X154.here hx rfl (pc0 := 86) (pc' := 143) rfl (hb hby at_86) (by decide) (by decide) ?_
      refine st159 _ ?_
      show Steps p.tables e below (T159.setTop (mkF m 146 #[.val (.int wl), .val (.int wa), .val (.int wb), .val (.int wc), .val (.int wd), .val (.int 2), .val (.int c0), .val (.int c1), .val (.int c2), .val (.int c3), .val (.ref b141), .unset, .unset, .unset, .unset, .unset] [(.ref b159)])) _
      refine XS.dup X159.here hx rfl (hb hby at_146) rfl rfl ?_
      refine XS.aload X159.here hx rfl (hb hby at_147) rfl rfl ?_
      exact kt
    have f168 := (V154.ext E159)
    have hn170 : nar .char c0 = c0 := own_narc c0 hc0.1 hc0.2
    have hn171 : nar .char c1 = c1 := own_narc c1 hc1.1 hc1.2
    have Vx169 : Arv Z h159 b141 k141 .char (2 : Int32) [(.int c0), (.int c1)] (.int 0) := by
      have q := f168
      rw [hn170, hn171] at q; exact q
    have f172 := (f160.ext E159)
    have os173 := (own_st_ext (own_st_wr (own_st_wr (own_st_ext Os E141) W148) W154) E159)
    obtain ⟨_, _, ⟨T174, L174, k174, n174⟩, -, X174, ⟨Lc174, hQ174, l174, y174, z174⟩, st174⟩ := X159.specialBack hx (y := yn31) rfl hown (mvT hZ (ow hw 9 rfl)) (mvT hZ (ow hw 10 rfl)) (mvT hZ (ow hw 11 rfl)) (by decide) (backOf (W := 1) (rm_mu2 l Z a0 hw [] b159 b141 vcs vf k141 c0 c1 h159 n0 Zs166 os173 A159 F159_coder F159_value g_b159 (Ne.symm ne_b141_b159) Vx169 hc0.1 hc1.1 hc0.2 hc1.2) hZ (ow hw 11 rfl) (ow hw 8 rfl) (by decide) (by decide)) (g := (mkF m 149 #[.val (.int wl), .val (.int wa), .val (.int wb), .val (.int wc), .val (.int wd), .val (.int 2), .val (.int c0), .val (.int c1), .val (.int c2), .val (.int c3), .val (.ref b141), .unset, .unset, .unset, .unset, .unset] [(.ref b141), (.ref b159), (.ref b159)])) rfl (by rw [hml]; rfl) (Steps.refl _) (a := b159) (argsL := [(.ref b141)]) (rest := [(.ref b159)]) (lenOf pd_21 rfl) rfl (by exact Nat.le_of_eq rfl) (hb hby at_149) (fun _ _ => ⟨rfl, e159, (by decide : 2 + 2 ≤ _), (by decide : 6 + 6 ≤ _)⟩)
    dsimp only [Pt.U, Pt.locs, Pt.cells, Pt.slots] at X174 l174 y174 z174 st174 hQ174
    rw [l174, y174, z174] at X174
    obtain ⟨rfl, N174q, K174, A174, ob, kb, gb, szb, Fv174, hO174⟩ := hQ174
    have N174 := Fr.app N154 N174q
    have sf175 := (Safe.keep K174 (sfS sf163 sf0) CR164.1 sf162)
    have sf176 := (Safe.keep K174 (sfS sf163 sf0) CR164.1 sf163)
    have CR177 := (CR164.trans (CHr.keep K174 (sfS sf163 sf0) CR164.1))
    have hk178 := Nat.le_trans hk165 K174.1
    have Zs179 : n0 ≤ T174.heap.size := Nat.le_trans Zs166 K174.1
    have ne_b141_ob : b141 ≠ ob := Nat.ne_of_lt (Nat.lt_of_lt_of_le Vx169.lt szb)
    have ne_b159_ob : b159 ≠ ob := Nat.ne_of_lt (Nat.lt_of_lt_of_le A159.lt szb)
    have sz_ob : h0.size ≤ ob := Nat.le_trans f172.1 szb
    have Sx174 : own_s2 Z T174.heap b159 ob kb c0 c1 := ⟨A174, Fv174, hO174⟩
    have pre180 : oP p e below (T174.setTop (mkF m 154 #[.val (.int wl), .val (.int wa), .val (.int wb), .val (.int wc), .val (.int wd), .val (.int 2), .val (.int c0), .val (.int c1), .val (.int c2), .val (.int c3), .val (.ref b141), .val (.ref b159), .unset, .unset, .unset, .unset] [])) (SS) := fun t kt => by
      refine pre167 _ ?_
      refine st174.trans ?_
      refine XS.astore X174.here hx rfl (hb hby at_152) rfl rfl (l' := #[.val (.int wl), .val (.int wa), .val (.int wb), .val (.int wc), .val (.int wd), .val (.int 2), .val (.int c0), .val (.int c1), .val (.int c2), .val (.int c3), .val (.ref b141), .val (.ref b159), .unset, .unset, .unset, .unset]) rfl ?_
      exact kt
    obtain ⟨vn, hvn, pre192⟩ : ∃ vn : Int32, ((vn.toInt = 1 ∧ (c0.toInt = 0 ∨ c1.toInt = 0)) ∨ (vn.toInt = 0 ∧ ¬ (c0.toInt = 0 ∨ c1.toInt = 0))) ∧ ∀ t, Steps p.tables e below (T174.setTop (mkF m 202 #[.val (.int wl), .val (.int wa), .val (.int wb), .val (.int wc), .val (.int wd), .val (.int 2), .val (.int c0), .val (.int c1), .val (.int c2), .val (.int c3), .val (.ref b141), .val (.ref b159), .unset, .unset, .unset, .unset] [(.int vn)])) t → Steps p.tables e below (SS) t := by
      have hc156_181 : (0 : Int) < (2 : Int) := by decide
      have pre183 : oP p e below (T174.setTop (mkF m 161 #[.val (.int wl), .val (.int wa), .val (.int wb), .val (.int wc), .val (.int wd), .val (.int 2), .val (.int c0), .val (.int c1), .val (.int c2), .val (.int c3), .val (.ref b141), .val (.ref b159), .unset, .unset, .unset, .unset] [(.int c0)])) (SS) := fun t kt => by
        refine pre180 _ ?_
        refine XS.iload X174.here hx rfl (hb hby at_154) rfl ?_
        refine XS.ifNo X174.here hx rfl (hb hby at_156) rfl (own_if (own_tlt (a := (0 : Int32)) (b := (2 : Int32)) (by decide) (by decide) hc156_181).2.2.2) ?_
        refine XS.iload X174.here hx rfl (hb hby at_159) rfl ?_
        exact kt
      by_cases hc161_182 : c0.toInt = (0 : Int)
      · have pre184 : oP p e below (T174.setTop (mkF m 202 #[.val (.int wl), .val (.int wa), .val (.int wb), .val (.int wc), .val (.int wd), .val (.int 2), .val (.int c0), .val (.int c1), .val (.int c2), .val (.int c3), .val (.ref b141), .val (.ref b159), .unset, .unset, .unset, .unset] [(.int 1)])) (SS) := fun t kt => by
          refine pre183 _ ?_
          refine XS.ifYes X174.here hx rfl (pc0 := 161) (pc' := 197) rfl (hb hby at_161) rfl (own_if (own_teq (a := c0) (b := (0 : Int32)) rfl (by decide) hc161_182).1) (by decide) (by decide) ?_
          refine XS.iconst X174.here hx rfl (hb hby at_197) ?_
          refine XS.goto X174.here hx rfl (pc0 := 198) (pc' := 202) rfl (hb hby at_198) (by decide) (by decide) ?_
          exact kt
        exact ⟨(1 : Int32), by have iv : ((1 : Int32)).toInt = (1 : Int) := (by decide); omega, pre184⟩
      · have hc167_185 : (1 : Int) < (2 : Int) := by decide
        have pre187 : oP p e below (T174.setTop (mkF m 172 #[.val (.int wl), .val (.int wa), .val (.int wb), .val (.int wc), .val (.int wd), .val (.int 2), .val (.int c0), .val (.int c1), .val (.int c2), .val (.int c3), .val (.ref b141), .val (.ref b159), .unset, .unset, .unset, .unset] [(.int c1)])) (SS) := fun t kt => by
          refine pre183 _ ?_
          refine XS.ifNo X174.here hx rfl (hb hby at_161) rfl (own_if (own_feq (a := c0) (b := (0 : Int32)) rfl (by decide) hc161_182).1) ?_
          refine XS.iload X174.here hx rfl (hb hby at_164) rfl ?_
          refine XS.iconst X174.here hx rfl (hb hby at_166) ?_
          refine XS.icmpNo X174.here hx rfl (hb hby at_167) rfl (own_tlt (a := (1 : Int32)) (b := (2 : Int32)) (by decide) (by decide) hc167_185).2.2.2 ?_
          refine XS.iload X174.here hx rfl (hb hby at_170) rfl ?_
          exact kt
        by_cases hc172_186 : c1.toInt = (0 : Int)
        · have pre188 : oP p e below (T174.setTop (mkF m 202 #[.val (.int wl), .val (.int wa), .val (.int wb), .val (.int wc), .val (.int wd), .val (.int 2), .val (.int c0), .val (.int c1), .val (.int c2), .val (.int c3), .val (.ref b141), .val (.ref b159), .unset, .unset, .unset, .unset] [(.int 1)])) (SS) := fun t kt => by
            refine pre187 _ ?_
            refine XS.ifYes X174.here hx rfl (pc0 := 172) (pc' := 197) rfl (hb hby at_172) rfl (own_if (own_teq (a := c1) (b := (0 : Int32)) rfl (by decide) hc172_186).1) (by decide) (by decide) ?_
            refine XS.iconst X174.here hx rfl (hb hby at_197) ?_
            refine XS.goto X174.here hx rfl (pc0 := 198) (pc' := 202) rfl (hb hby at_198) (by decide) (by decide) ?_
            exact kt
          exact ⟨(1 : Int32), by have iv : ((1 : Int32)).toInt = (1 : Int) := (by decide); omega, pre188⟩
        · have hc178_189 : ¬ ((2 : Int) < (2 : Int)) := by decide
          have hc189_190 : ¬ ((3 : Int) < (2 : Int)) := by decide
          have pre191 : oP p e below (T174.setTop (mkF m 202 #[.val (.int wl), .val (.int wa), .val (.int wb), .val (.int wc), .val (.int wd), .val (.int 2), .val (.int c0), .val (.int c1), .val (.int c2), .val (.int c3), .val (.ref b141), .val (.ref b159), .unset, .unset, .unset, .unset] [(.int 0)])) (SS) := fun t kt => by
            refine pre187 _ ?_
            refine XS.ifNo X174.here hx rfl (hb hby at_172) rfl (own_if (own_feq (a := c1) (b := (0 : Int32)) rfl (by decide) hc172_186).1) ?_
            refine XS.iload X174.here hx rfl (hb hby at_175) rfl ?_
            refine XS.iconst X174.here hx rfl (hb hby at_177) ?_
            refine XS.icmpYes X174.here hx rfl (pc0 := 178) (pc' := 186) rfl (hb hby at_178) rfl (own_flt (a := (2 : Int32)) (b := (2 : Int32)) (by decide) (by decide) hc178_189).2.2.2 (by decide) (by decide) ?_
            refine XS.iload X174.here hx rfl (hb hby at_186) rfl ?_
            refine XS.iconst X174.here hx rfl (hb hby at_188) ?_
            refine XS.icmpYes X174.here hx rfl (pc0 := 189) (pc' := 201) rfl (hb hby at_189) rfl (own_flt (a := (3 : Int32)) (b := (2 : Int32)) (by decide) (by decide) hc189_190).2.2.2 (by decide) (by decide) ?_
            refine XS.iconst X174.here hx rfl (hb hby at_201) ?_
            exact kt
          exact ⟨(0 : Int32), by have iv : ((0 : Int32)).toInt = (0 : Int) := (by decide); omega, pre191⟩
    have pre193 : oP p e below (T174.setTop (mkF m 204 #[.val (.int wl), .val (.int wa), .val (.int wb), .val (.int wc), .val (.int wd), .val (.int 2), .val (.int c0), .val (.int c1), .val (.int c2), .val (.int c3), .val (.ref b141), .val (.ref b159), .val (.int vn), .unset, .unset, .unset] [])) (SS) := fun t kt => by
      refine pre192 _ ?_
      refine XS.istore X174.here hx rfl (hb hby at_202) rfl (l' := #[.val (.int wl), .val (.int wa), .val (.int wb), .val (.int wc), .val (.int wd), .val (.int 2), .val (.int c0), .val (.int c1), .val (.int c2), .val (.int c3), .val (.ref b141), .val (.ref b159), .val (.int vn), .unset, .unset, .unset]) rfl ?_
      exact kt
    obtain ⟨vdt, hvdt, pre196⟩ : ∃ vdt : Int32, ((vdt.toInt = 1 ∧ ((0 : Int) = 1)) ∨ (vdt.toInt = 0 ∧ ¬ ((0 : Int) = 1))) ∧ ∀ t, Steps p.tables e below (T174.setTop (mkF m 222 #[.val (.int wl), .val (.int wa), .val (.int wb), .val (.int wc), .val (.int wd), .val (.int 2), .val (.int c0), .val (.int c1), .val (.int c2), .val (.int c3), .val (.ref b141), .val (.ref b159), .val (.int vn), .unset, .unset, .unset] [(.int vdt)])) t → Steps p.tables e below (SS) t := by
      have hc207_194 : ¬ ((2 : Int) = (1 : Int)) := by decide
      have pre195 : oP p e below (T174.setTop (mkF m 222 #[.val (.int wl), .val (.int wa), .val (.int wb), .val (.int wc), .val (.int wd), .val (.int 2), .val (.int c0), .val (.int c1), .val (.int c2), .val (.int c3), .val (.ref b141), .val (.ref b159), .val (.int vn), .unset, .unset, .unset] [(.int 0)])) (SS) := fun t kt => by
        refine pre193 _ ?_
        refine XS.iload X174.here hx rfl (hb hby at_204) rfl ?_
        refine XS.iconst X174.here hx rfl (hb hby at_206) ?_
        refine XS.icmpYes X174.here hx rfl (pc0 := 207) (pc' := 221) rfl (hb hby at_207) rfl (own_feq (a := (2 : Int32)) (b := (1 : Int32)) (by decide) (by decide) hc207_194).2 (by decide) (by decide) ?_
        refine XS.iconst X174.here hx rfl (hb hby at_221) ?_
        exact kt
      exact ⟨(0 : Int32), by have iv : ((0 : Int32)).toInt = (0 : Int) := (by decide); omega, pre195⟩
    have pre197 : oP p e below (T174.setTop (mkF m 224 #[.val (.int wl), .val (.int wa), .val (.int wb), .val (.int wc), .val (.int wd), .val (.int 2), .val (.int c0), .val (.int c1), .val (.int c2), .val (.int c3), .val (.ref b141), .val (.ref b159), .val (.int vn), .val (.int vdt), .unset, .unset] [])) (SS) := fun t kt => by
      refine pre196 _ ?_
      refine XS.istore X174.here hx rfl (hb hby at_222) rfl (l' := #[.val (.int wl), .val (.int wa), .val (.int wb), .val (.int wc), .val (.int wd), .val (.int 2), .val (.int c0), .val (.int c1), .val (.int c2), .val (.int c3), .val (.ref b141), .val (.ref b159), .val (.int vn), .val (.int vdt), .unset, .unset]) rfl ?_
      exact kt
    obtain ⟨vdd, hvdd, pre206⟩ : ∃ vdd : Int32, ((vdd.toInt = 1 ∧ (c0.toInt = 46 ∧ c1.toInt = 46)) ∨ (vdd.toInt = 0 ∧ ¬ (c0.toInt = 46 ∧ c1.toInt = 46))) ∧ ∀ t, Steps p.tables e below (T174.setTop (mkF m 249 #[.val (.int wl), .val (.int wa), .val (.int wb), .val (.int wc), .val (.int wd), .val (.int 2), .val (.int c0), .val (.int c1), .val (.int c2), .val (.int c3), .val (.ref b141), .val (.ref b159), .val (.int vn), .val (.int vdt), .unset, .unset] [(.int vdd)])) t → Steps p.tables e below (SS) t := by
      have hc227_198 : (2 : Int) = (2 : Int) := by decide
      have pre200 : oP p e below (T174.setTop (mkF m 234 #[.val (.int wl), .val (.int wa), .val (.int wb), .val (.int wc), .val (.int wd), .val (.int 2), .val (.int c0), .val (.int c1), .val (.int c2), .val (.int c3), .val (.ref b141), .val (.ref b159), .val (.int vn), .val (.int vdt), .unset, .unset] [(.int 46), (.int c0)])) (SS) := fun t kt => by
        refine pre197 _ ?_
        refine XS.iload X174.here hx rfl (hb hby at_224) rfl ?_
        refine XS.iconst X174.here hx rfl (hb hby at_226) ?_
        refine XS.icmpNo X174.here hx rfl (hb hby at_227) rfl (own_teq (a := (2 : Int32)) (b := (2 : Int32)) (by decide) (by decide) hc227_198).2 ?_
        refine XS.iload X174.here hx rfl (hb hby at_230) rfl ?_
        refine XS.bipush X174.here hx rfl (hb hby at_232) ?_
        exact kt
      by_cases hc234_199 : c0.toInt = (46 : Int)
      · have pre202 : oP p e below (T174.setTop (mkF m 241 #[.val (.int wl), .val (.int wa), .val (.int wb), .val (.int wc), .val (.int wd), .val (.int 2), .val (.int c0), .val (.int c1), .val (.int c2), .val (.int c3), .val (.ref b141), .val (.ref b159), .val (.int vn), .val (.int vdt), .unset, .unset] [(.int 46), (.int c1)])) (SS) := fun t kt => by
          refine pre200 _ ?_
          refine XS.icmpNo X174.here hx rfl (hb hby at_234) rfl (own_teq (a := c0) (b := (46 : Int32)) rfl (by decide) hc234_199).2 ?_
          refine XS.iload X174.here hx rfl (hb hby at_237) rfl ?_
          refine XS.bipush X174.here hx rfl (hb hby at_239) ?_
          exact kt
        by_cases hc241_201 : c1.toInt = (46 : Int)
        · have pre203 : oP p e below (T174.setTop (mkF m 249 #[.val (.int wl), .val (.int wa), .val (.int wb), .val (.int wc), .val (.int wd), .val (.int 2), .val (.int c0), .val (.int c1), .val (.int c2), .val (.int c3), .val (.ref b141), .val (.ref b159), .val (.int vn), .val (.int vdt), .unset, .unset] [(.int 1)])) (SS) := fun t kt => by
            refine pre202 _ ?_
            refine XS.icmpNo X174.here hx rfl (hb hby at_241) rfl (own_teq (a := c1) (b := (46 : Int32)) rfl (by decide) hc241_201).2 ?_
            refine XS.iconst X174.here hx rfl (hb hby at_244) ?_
            refine XS.goto X174.here hx rfl (pc0 := 245) (pc' := 249) rfl (hb hby at_245) (by decide) (by decide) ?_
            exact kt
          exact ⟨(1 : Int32), by have iv : ((1 : Int32)).toInt = (1 : Int) := (by decide); omega, pre203⟩
        · have pre204 : oP p e below (T174.setTop (mkF m 249 #[.val (.int wl), .val (.int wa), .val (.int wb), .val (.int wc), .val (.int wd), .val (.int 2), .val (.int c0), .val (.int c1), .val (.int c2), .val (.int c3), .val (.ref b141), .val (.ref b159), .val (.int vn), .val (.int vdt), .unset, .unset] [(.int 0)])) (SS) := fun t kt => by
            refine pre202 _ ?_
            refine XS.icmpYes X174.here hx rfl (pc0 := 241) (pc' := 248) rfl (hb hby at_241) rfl (own_feq (a := c1) (b := (46 : Int32)) rfl (by decide) hc241_201).2 (by decide) (by decide) ?_
            refine XS.iconst X174.here hx rfl (hb hby at_248) ?_
            exact kt
          exact ⟨(0 : Int32), by have iv : ((0 : Int32)).toInt = (0 : Int) := (by decide); omega, pre204⟩
      · have pre205 : oP p e below (T174.setTop (mkF m 249 #[.val (.int wl), .val (.int wa), .val (.int wb), .val (.int wc), .val (.int wd), .val (.int 2), .val (.int c0), .val (.int c1), .val (.int c2), .val (.int c3), .val (.ref b141), .val (.ref b159), .val (.int vn), .val (.int vdt), .unset, .unset] [(.int 0)])) (SS) := fun t kt => by
          refine pre200 _ ?_
          refine XS.icmpYes X174.here hx rfl (pc0 := 234) (pc' := 248) rfl (hb hby at_234) rfl (own_feq (a := c0) (b := (46 : Int32)) rfl (by decide) hc234_199).2 (by decide) (by decide) ?_
          refine XS.iconst X174.here hx rfl (hb hby at_248) ?_
          exact kt
        exact ⟨(0 : Int32), by have iv : ((0 : Int32)).toInt = (0 : Int) := (by decide); omega, pre205⟩
    have pre207 : oP p e below (T174.setTop (mkF m 251 #[.val (.int wl), .val (.int wa), .val (.int wb), .val (.int wc), .val (.int wd), .val (.int 2), .val (.int c0), .val (.int c1), .val (.int c2), .val (.int c3), .val (.ref b141), .val (.ref b159), .val (.int vn), .val (.int vdt), .val (.int vdd), .unset] [])) (SS) := fun t kt => by
      refine pre206 _ ?_
      refine XS.istore X174.here hx rfl (hb hby at_249) rfl (l' := #[.val (.int wl), .val (.int wa), .val (.int wb), .val (.int wc), .val (.int wd), .val (.int 2), .val (.int c0), .val (.int c1), .val (.int c2), .val (.int c3), .val (.ref b141), .val (.ref b159), .val (.int vn), .val (.int vdt), .val (.int vdd), .unset]) rfl ?_
      exact kt
    obtain ⟨vex, hvex, pre219⟩ : ∃ vex : Int32, ((vex.toInt = 1 ∧ (¬ (c0.toInt = 46 ∧ c1.toInt = 46) ∧ ¬ (c0.toInt = 0 ∨ c1.toInt = 0))) ∨ (vex.toInt = 0 ∧ ¬ (¬ (c0.toInt = 46 ∧ c1.toInt = 46) ∧ ¬ (c0.toInt = 0 ∨ c1.toInt = 0)))) ∧ ∀ t, Steps p.tables e below (T174.setTop (mkF m 276 #[.val (.int wl), .val (.int wa), .val (.int wb), .val (.int wc), .val (.int wd), .val (.int 2), .val (.int c0), .val (.int c1), .val (.int c2), .val (.int c3), .val (.ref b141), .val (.ref b159), .val (.int vn), .val (.int vdt), .val (.int vdd), .unset] [(.int vex)])) t → Steps p.tables e below (SS) t := by
      have hc253_208 : (0 : Int) < (2 : Int) := by decide
      have pre210 : oP p e below (T174.setTop (mkF m 258 #[.val (.int wl), .val (.int wa), .val (.int wb), .val (.int wc), .val (.int wd), .val (.int 2), .val (.int c0), .val (.int c1), .val (.int c2), .val (.int c3), .val (.ref b141), .val (.ref b159), .val (.int vn), .val (.int vdt), .val (.int vdd), .unset] [(.int vdt)])) (SS) := fun t kt => by
        refine pre207 _ ?_
        refine XS.iload X174.here hx rfl (hb hby at_251) rfl ?_
        refine XS.ifNo X174.here hx rfl (hb hby at_253) rfl (own_if (own_tlt (a := (0 : Int32)) (b := (2 : Int32)) (by decide) (by decide) hc253_208).2.2.2) ?_
        refine XS.iload X174.here hx rfl (hb hby at_256) rfl ?_
        exact kt
      by_cases hc258_209 : vdt.toInt = (0 : Int)
      · have pre212 : oP p e below (T174.setTop (mkF m 263 #[.val (.int wl), .val (.int wa), .val (.int wb), .val (.int wc), .val (.int wd), .val (.int 2), .val (.int c0), .val (.int c1), .val (.int c2), .val (.int c3), .val (.ref b141), .val (.ref b159), .val (.int vn), .val (.int vdt), .val (.int vdd), .unset] [(.int vdd)])) (SS) := fun t kt => by
          refine pre210 _ ?_
          refine XS.ifNo X174.here hx rfl (hb hby at_258) rfl (own_if (own_teq (a := vdt) (b := (0 : Int32)) rfl (by decide) hc258_209).2) ?_
          refine XS.iload X174.here hx rfl (hb hby at_261) rfl ?_
          exact kt
        by_cases hc263_211 : vdd.toInt = (0 : Int)
        · have pre214 : oP p e below (T174.setTop (mkF m 268 #[.val (.int wl), .val (.int wa), .val (.int wb), .val (.int wc), .val (.int wd), .val (.int 2), .val (.int c0), .val (.int c1), .val (.int c2), .val (.int c3), .val (.ref b141), .val (.ref b159), .val (.int vn), .val (.int vdt), .val (.int vdd), .unset] [(.int vn)])) (SS) := fun t kt => by
            refine pre212 _ ?_
            refine XS.ifNo X174.here hx rfl (hb hby at_263) rfl (own_if (own_teq (a := vdd) (b := (0 : Int32)) rfl (by decide) hc263_211).2) ?_
            refine XS.iload X174.here hx rfl (hb hby at_266) rfl ?_
            exact kt
          by_cases hc268_213 : vn.toInt = (0 : Int)
          · have pre215 : oP p e below (T174.setTop (mkF m 276 #[.val (.int wl), .val (.int wa), .val (.int wb), .val (.int wc), .val (.int wd), .val (.int 2), .val (.int c0), .val (.int c1), .val (.int c2), .val (.int c3), .val (.ref b141), .val (.ref b159), .val (.int vn), .val (.int vdt), .val (.int vdd), .unset] [(.int 1)])) (SS) := fun t kt => by
              refine pre214 _ ?_
              refine XS.ifNo X174.here hx rfl (hb hby at_268) rfl (own_if (own_teq (a := vn) (b := (0 : Int32)) rfl (by decide) hc268_213).2) ?_
              refine XS.iconst X174.here hx rfl (hb hby at_271) ?_
              refine XS.goto X174.here hx rfl (pc0 := 272) (pc' := 276) rfl (hb hby at_272) (by decide) (by decide) ?_
              exact kt
            exact ⟨(1 : Int32), by have iv : ((1 : Int32)).toInt = (1 : Int) := (by decide); omega, pre215⟩
          · have pre216 : oP p e below (T174.setTop (mkF m 276 #[.val (.int wl), .val (.int wa), .val (.int wb), .val (.int wc), .val (.int wd), .val (.int 2), .val (.int c0), .val (.int c1), .val (.int c2), .val (.int c3), .val (.ref b141), .val (.ref b159), .val (.int vn), .val (.int vdt), .val (.int vdd), .unset] [(.int 0)])) (SS) := fun t kt => by
              refine pre214 _ ?_
              refine XS.ifYes X174.here hx rfl (pc0 := 268) (pc' := 275) rfl (hb hby at_268) rfl (own_if (own_feq (a := vn) (b := (0 : Int32)) rfl (by decide) hc268_213).2) (by decide) (by decide) ?_
              refine XS.iconst X174.here hx rfl (hb hby at_275) ?_
              exact kt
            exact ⟨(0 : Int32), by have iv : ((0 : Int32)).toInt = (0 : Int) := (by decide); omega, pre216⟩
        · have pre217 : oP p e below (T174.setTop (mkF m 276 #[.val (.int wl), .val (.int wa), .val (.int wb), .val (.int wc), .val (.int wd), .val (.int 2), .val (.int c0), .val (.int c1), .val (.int c2), .val (.int c3), .val (.ref b141), .val (.ref b159), .val (.int vn), .val (.int vdt), .val (.int vdd), .unset] [(.int 0)])) (SS) := fun t kt => by
            refine pre212 _ ?_
            refine XS.ifYes X174.here hx rfl (pc0 := 263) (pc' := 275) rfl (hb hby at_263) rfl (own_if (own_feq (a := vdd) (b := (0 : Int32)) rfl (by decide) hc263_211).2) (by decide) (by decide) ?_
            refine XS.iconst X174.here hx rfl (hb hby at_275) ?_
            exact kt
          exact ⟨(0 : Int32), by have iv : ((0 : Int32)).toInt = (0 : Int) := (by decide); omega, pre217⟩
      · have pre218 : oP p e below (T174.setTop (mkF m 276 #[.val (.int wl), .val (.int wa), .val (.int wb), .val (.int wc), .val (.int wd), .val (.int 2), .val (.int c0), .val (.int c1), .val (.int c2), .val (.int c3), .val (.ref b141), .val (.ref b159), .val (.int vn), .val (.int vdt), .val (.int vdd), .unset] [(.int 0)])) (SS) := fun t kt => by
          refine pre210 _ ?_
          refine XS.ifYes X174.here hx rfl (pc0 := 258) (pc' := 275) rfl (hb hby at_258) rfl (own_if (own_feq (a := vdt) (b := (0 : Int32)) rfl (by decide) hc258_209).2) (by decide) (by decide) ?_
          refine XS.iconst X174.here hx rfl (hb hby at_275) ?_
          exact kt
        exact ⟨(0 : Int32), by have iv : ((0 : Int32)).toInt = (0 : Int) := (by decide); omega, pre218⟩
    have pre220 : oP p e below (T174.setTop (mkF m 280 #[.val (.int wl), .val (.int wa), .val (.int wb), .val (.int wc), .val (.int wd), .val (.int 2), .val (.int c0), .val (.int c1), .val (.int c2), .val (.int c3), .val (.ref b141), .val (.ref b159), .val (.int vn), .val (.int vdt), .val (.int vdd), .val (.int vex)] [(.ref b159)])) (SS) := fun t kt => by
      refine pre219 _ ?_
      refine XS.istore X174.here hx rfl (hb hby at_276) rfl (l' := #[.val (.int wl), .val (.int wa), .val (.int wb), .val (.int wc), .val (.int wd), .val (.int 2), .val (.int c0), .val (.int c1), .val (.int c2), .val (.int c3), .val (.ref b141), .val (.ref b159), .val (.int vn), .val (.int vdt), .val (.int vdd), .val (.int vex)]) rfl ?_
      refine XS.aload X174.here hx rfl (hb hby at_278) rfl rfl ?_
      exact kt
    have os221 := (own_st_keep os173 K174 (nsS A159.nostat ns0))
    have f223 := (Vx169.keep K174 (ninS ne_b141_b159 nin0))
    obtain ⟨_, _, ⟨T222, L222, k222, n222⟩, -, Xp222, hSp222, hgp222, ⟨Lc222, hQ222, l222, y222, z222, CRn222⟩, st222⟩ := callSS X174 hx (y := yn22) hown (mvT hZ (ow hw 27 rfl)) (mvT hZ (ow hw 28 rfl)) (mvT hZ (ow hw 29 rfl)) (mvT hZ (ow hw 30 rfl)) (by decide) (backOfSH (W := 0) (rm_nm2 l Z a0 hw [] b159 vcs vf ob kb c0 c1 T174.heap n0 Zs179 os221 Sx174 hc0.1 hc1.1 hc0.2 hc1.2) hZ (ow hw 30 rfl) (ow hw 29 rfl) (by decide) (by decide) hEL CR177.1) (g := (mkF m 280 #[.val (.int wl), .val (.int wa), .val (.int wb), .val (.int wc), .val (.int wd), .val (.int 2), .val (.int c0), .val (.int c1), .val (.int c2), .val (.int c3), .val (.ref b141), .val (.ref b159), .val (.int vn), .val (.int vdt), .val (.int vdd), .val (.int vex)] [(.ref b159)])) rfl (by rw [hml]; rfl) (argsL := [(.ref b159)]) (rest := []) (lenOf pd_22 rfl) rfl (by exact Nat.le_of_eq rfl) (hb hby at_280) (fun _ _ => ⟨rfl, rfl, (by decide : 4 + 4 ≤ _), (by decide : 12 + 20 ≤ _)⟩)
    dsimp only [Pt.U, Pt.locs, Pt.cells, Pt.slots] at Xp222 hSp222 hgp222 l222 y222 z222 st222 hQ222 CRn222
    rw [l222, y222, z222] at Xp222
    obtain ⟨X222, hS222, hZ, hown⟩ := rebS hS0 (n1 := T174.heap.size) hk178 Xp222 hSp222 hgp222 hZ hown
    have sf224 := CRn222.safe f223.lt sf175
    have sf225 := CRn222.safe A174.lt sf176
    have CR226 := CR177.trans CRn222
    obtain ⟨zu, rfl, hzu, N222q, K222⟩ := hQ222
    have N222 := Fr.app N174 N222q
    have Zs227 : n0 ≤ T222.heap.size := Nat.le_trans Zs179 K222.1
    have hc285_228 : zu.toInt = vex.toInt := by omega
    subst hSS
    obtain ⟨fs, hr, hrun, hended, hREW⟩ := X222.leaveW hS222 (Nat.le_refl T222.heap.size) (v := some (.int 1)) (fun h => by rw [Bd.returns] at h; cases h)
    refine ⟨_, _, pre220 _ ?_, hrun, hended, _, _, rfl, ?_, ?_, ⟨hREW.1, hREW.2.1, hREW.2.2.1, hREW.2.2.2.mono (by decide) (by decide)⟩⟩
    · refine st222.trans ?_
      refine XS.iload X222.here hx rfl (hb hby at_283) rfl ?_
      refine XS.icmpNo X222.here hx rfl (hb hby at_285) rfl (own_teq (a := zu) (b := vex) rfl rfl hc285_228).2 ?_
      refine XS.iconst X222.here hx rfl (hb hby at_288) ?_
      refine XS.goto X222.here hx rfl (pc0 := 289) (pc' := 293) rfl (hb hby at_289) (by decide) (by decide) ?_
      exact retN X222 hx (t := .boolean) Bd.returns (by simp) (hb hby at_293) hr
    · show Q0 Z _ _ _ _ _ _ _ h0 n0 _ T222.heap _
      exact ⟨rfl, N222⟩
    · show CHr Z own_EL s.vm s.heap T222.vm T222.heap
      rw [hh]
      exact CR226.trans (CHv.at X222 hZ hEL CR226.1)
  · have pre229 : oP p e below (T10.setTop (mkF m 33 #[.val (.int wl), .val (.int wa), .val (.int wb), .val (.int wc), .val (.int wd), .val (.int 3), .val (.int c0), .val (.int c1), .val (.int c2), .val (.int c3), .unset, .unset, .unset, .unset, .unset, .unset] [])) (SS) := pre12
    have hc35_230 : ¬ ((3 : Int) = (0 : Int)) := by decide
    have hc49_231 : ¬ ((3 : Int) = (1 : Int)) := by decide
    have hc68_232 : ¬ ((3 : Int) = (2 : Int)) := by decide
    have hc92_233 : (3 : Int) = (3 : Int) := by decide
    obtain ⟨T234, h234, k234, X234, e234, E234, A234, st234⟩ := newP X10 hx hZ (ow hw 5 rfl) e10 (g := (mkF m 96 #[.val (.int wl), .val (.int wa), .val (.int wb), .val (.int wc), .val (.int wd), .val (.int 3), .val (.int c0), .val (.int c1), .val (.int c2), .val (.int c3), .unset, .unset, .unset, .unset, .unset, .unset] [(.int 3)])) rfl (hb hby at_96) rfl (by decide) (cap := 3) (by decide) (by decide) (by decide) (by decide)
    obtain ⟨b234, g234⟩ : ∃ z, z = h0.size := ⟨_, rfl⟩
    have g_b234 : n0 ≤ b234 := Nat.le_trans Z0 (Nat.le_of_eq g234.symm)
    have sz_b234 : h0.size ≤ b234 := Nat.le_trans (Keep.refl h0 []).1 (Nat.le_of_eq g234.symm)
    have sf235 : Safe Z own_EL s.vm h0 b234 := Safe.new (Nat.le_of_eq g234.symm)
    rw [← g234] at A234 st234
    have sf236 := (Safe.ext E234 CR0.1 sf235)
    have CR237 := (CR0.trans (CHr.ext E234 CR0.1))
    have hk238 := Nat.le_trans hk0 E234.1
    have Zs239 : n0 ≤ h234.size := Nat.le_trans Z0 E234.1
    have V234 : Arv Z h234 b234 k234 .char (3 : Int32) [(.int 0), (.int 0), (.int 0)] (.int 0) := (Arv.new A234 (by decide)).pad (pad_rep [] (.int 0) 3)
    obtain ⟨cl240, Ar240, q240, S240, M240, H240, G240⟩ := id V234
    have hin240 : ¬ ((0 : Int32) < 0 ∨ cl240.slots.size ≤ ((0 : Int32)).toNatClampNeg) := inb_of S240 ⟨by decide, by decide⟩
    obtain ⟨T241, h241, X241, e241, W241, st241⟩ := stC X234 hx hZ e234 Ar240 (j := (0 : Int32)) hin240 (g := (mkF m 102 #[.val (.int wl), .val (.int wa), .val (.int wb), .val (.int wc), .val (.int wd), .val (.int 3), .val (.int c0), .val (.int c1), .val (.int c2), .val (.int c3), .unset, .unset, .unset, .unset, .unset, .unset] [(.int c0), (.int 0), (.ref b234), (.ref b234)])) rfl rfl (hb hby at_102)
    have N241 := Fr.snoc X241 N10 g_b234
    have sf242 := (Safe.wr W241 sf236 CR237.1 sf236)
    have CR243 := (CR237.trans (CHr.wr W241 sf236 CR237.1))
    have hk244 := Nat.le_trans hk238 (Nat.le_of_eq W241.size.symm)
    have Zs245 : n0 ≤ h241.size := by rw [W241.size]; exact Zs239
    have V241 : Arv Z h241 b234 k234 .char (3 : Int32) [(.int (nar .char c0)), (.int 0), (.int 0)] (.int 0) := Arv.set Ar240 q240 S240 M240 H240 G240 (fits_nar_char _) W241 0 rfl (Nat.le_of_ble_eq_true rfl)
    obtain ⟨cl246, Ar246, q246, S246, M246, H246, G246⟩ := id V241
    have hin246 : ¬ ((1 : Int32) < 0 ∨ cl246.slots.size ≤ ((1 : Int32)).toNatClampNeg) := inb_of S246 ⟨by decide, by decide⟩
    obtain ⟨T247, h247, X247, e247, W247, st247⟩ := stC X241 hx hZ e241 Ar246 (j := (1 : Int32)) hin246 (g := (mkF m 107 #[.val (.int wl), .val (.int wa), .val (.int wb), .val (.int wc), .val (.int wd), .val (.int 3), .val (.int c0), .val (.int c1), .val (.int c2), .val (.int c3), .unset, .unset, .unset, .unset, .unset, .unset] [(.int c1), (.int 1), (.ref b234), (.ref b234)])) rfl rfl (hb hby at_107)
    have N247 := Fr.snoc X247 N241 g_b234
    have sf248 := (Safe.wr W247 sf242 CR243.1 sf242)
    have CR249 := (CR243.trans (CHr.wr W247 sf242 CR243.1))
    have hk250 := Nat.le_trans hk244 (Nat.le_of_eq W247.size.symm)
    have Zs251 : n0 ≤ h247.size := by rw [W247.size]; exact Zs245
    have V247 : Arv Z h247 b234 k234 .char (3 : Int32) [(.int (nar .char c0)), (.int (nar .char c1)), (.int 0)] (.int 0) := Arv.set Ar246 q246 S246 M246 H246 G246 (fits_nar_char _) W247 1 rfl (Nat.le_of_ble_eq_true rfl)
    obtain ⟨cl252, Ar252, q252, S252, M252, H252, G252⟩ := id V247
    have hin252 : ¬ ((2 : Int32) < 0 ∨ cl252.slots.size ≤ ((2 : Int32)).toNatClampNeg) := inb_of S252 ⟨by decide, by decide⟩
    obtain ⟨T253, h253, X253, e253, W253, st253⟩ := stC X247 hx hZ e247 Ar252 (j := (2 : Int32)) hin252 (g := (mkF m 112 #[.val (.int wl), .val (.int wa), .val (.int wb), .val (.int wc), .val (.int wd), .val (.int 3), .val (.int c0), .val (.int c1), .val (.int c2), .val (.int c3), .unset, .unset, .unset, .unset, .unset, .unset] [(.int c2), (.int 2), (.ref b234), (.ref b234)])) rfl rfl (hb hby at_112)
    have N253 := Fr.snoc X253 N247 g_b234
    have sf254 := (Safe.wr W253 sf248 CR249.1 sf248)
    have CR255 := (CR249.trans (CHr.wr W253 sf248 CR249.1))
    have hk256 := Nat.le_trans hk250 (Nat.le_of_eq W253.size.symm)
    have Zs257 : n0 ≤ h253.size := by rw [W253.size]; exact Zs251
    have V253 : Arv Z h253 b234 k234 .char (3 : Int32) [(.int (nar .char c0)), (.int (nar .char c1)), (.int (nar .char c2))] (.int 0) := Arv.set Ar252 q252 S252 M252 H252 G252 (fits_nar_char _) W253 2 rfl (Nat.le_of_ble_eq_true rfl)
    obtain ⟨T258, h258, X258, e258, E258, A258, D258, -, st258⟩ := newO X253 hx hZ hown (ow hw 6 rfl) (ow hw 7 rfl) (ow hw 8 rfl) e253 (g := (mkF m 143 #[.val (.int wl), .val (.int wa), .val (.int wb), .val (.int wc), .val (.int wd), .val (.int 3), .val (.int c0), .val (.int c1), .val (.int c2), .val (.int c3), .val (.ref b234), .unset, .unset, .unset, .unset, .unset] [])) rfl (hb hby at_143) (by decide) (by decide)
    obtain ⟨b258, g258⟩ : ∃ z, z = h253.size := ⟨_, rfl⟩
    have ne_b234_b258 : b234 ≠ b258 := Nat.ne_of_lt (Nat.lt_of_lt_of_le V253.lt (Nat.le_of_eq g258.symm))
    have g_b258 : n0 ≤ b258 := Nat.le_trans Zs257 (Nat.le_of_eq g258.symm)
    have f259 := (((((Keep.refl h0 []).ext E234).wr W241 (Or.inr sz_b234)).wr W247 (Or.inr sz_b234)).wr W253 (Or.inr sz_b234))
    have sz_b258 : h0.size ≤ b258 := Nat.le_trans f259.1 (Nat.le_of_eq g258.symm)
    have sf260 : Safe Z own_EL s.vm h253 b258 := Safe.new (Nat.le_of_eq g258.symm)
    rw [← g258] at A258 D258 st258
    have sf261 := (Safe.ext E258 CR255.1 sf254)
    have sf262 := (Safe.ext E258 CR255.1 sf260)
    have CR263 := (CR255.trans (CHr.ext E258 CR255.1))
    have hk264 := Nat.le_trans hk256 E258.1
    have Zs265 : n0 ≤ h258.size := Nat.le_trans Zs257 E258.1
    have F258_value : Fld Z h258 b258 "java/lang/String" "value" "[B" .null := D258 (Or.inr (ow hw 21 rfl)) (ty := (.array .byte)) (by decide)
    have F258_coder : Fld Z h258 b258 "java/lang/String" "coder" "B" (.int 0) := D258 (Or.inr (ow hw 22 rfl)) (ty := .byte) (by decide)
    have pre266 : oP p e below (T258.setTop (mkF m 149 #[.val (.int wl), .val (.int wa), .val (.int wb), .val (.int wc), .val (.int wd), .val (.int 3), .val (.int c0), .val (.int c1), .val (.int c2), .val (.int c3), .val (.ref b234), .unset, .unset, .unset, .unset, .unset] [(.ref b234), (.ref b258), (.ref b258)])) (SS) := fun t kt => by
      refine pre229 _ ?_
      refine XS.iload X10.here hx rfl (hb hby at_33) rfl ?_
      show Steps p.tables e below (T10.setTop (mkF m 35 #[.val (.int wl), .val (.int wa), .val (.int wb), .val (.int wc), .val (.int wd), .val (.int 3), .val (.int c0), .val (.int c1), .val (.int c2), .val (.int c3), .unset, .unset, .unset, .unset, .unset, .unset] [(.int 3)])) _
      refine XS.ifYes X10.here hx rfl (pc0 := 35) (pc' := 46) rfl (hb hby at_35) rfl (own_if (own_feq (a := (3 : Int32)) (b := (0 : Int32)) (by decide) (by decide) hc35_230).2) (by decide) (by decide) ?_
      refine XS.iload X10.here hx rfl (hb hby at_46) rfl ?_
      refine XS.iconst X10.here hx rfl (hb hby at_48) ?_
      refine XS.icmpYes X10.here hx rfl (pc0 := 49) (pc' := 65) rfl (hb hby at_49) rfl (own_feq (a := (3 : Int32)) (b := (1 : Int32)) (by decide) (by decide) hc49_231).2 (by decide) (by decide) ?_
      refine XS.iload X10.here hx rfl (hb hby at_65) rfl ?_
      refine XS.iconst X10.here hx rfl (hb hby at_67) ?_
      refine XS.icmpYes X10.here hx rfl (pc0 := 68) (pc' := 89) rfl (hb hby at_68) rfl (own_feq (a := (3 : Int32)) (b := (2 : Int32)) (by decide) (by decide) hc68_232).2 (by decide) (by decide) ?_
      refine XS.iload X10.here hx rfl (hb hby at_89) rfl ?_
      refine XS.iconst X10.here hx rfl (hb hby at_91) ?_
      refine XS.icmpNo X10.here hx rfl (hb hby at_92) rfl (own_teq (a := (3 : Int32)) (b := (3 : Int32)) (by decide) (by decide) hc92_233).2 ?_
      refine XS.iconst X10.here hx rfl (hb hby at_95) ?_
      refine st234 _ ?_
      refine XS.dup X234.here hx rfl (hb hby at_98) rfl rfl ?_
      refine XS.iconst X234.here hx rfl (hb hby at_99) ?_
      refine XS.iload X234.here hx rfl (hb hby at_100) rfl ?_
      refine st241 _ ?_
      refine XS.dup X241.here hx rfl (hb hby at_103) rfl rfl ?_
      refine XS.iconst X241.here hx rfl (hb hby at_104) ?_
      refine XS.iload X241.here hx rfl (hb hby at_105) rfl ?_
      refine st247 _ ?_
      show Steps p.tables e below (T247.setTop (mkF m 108 #[.val (.int wl), .val (.int wa), .val (.int wb), .val (.int wc), .val (.int wd), .val (.int 3), .val (.int c0), .val (.int c1), .val (.int c2), .val (.int c3), .unset, .unset, .unset, .unset, .unset, .unset] [(.ref b234)])) _
      refine XS.dup X247.here hx rfl (hb hby at_108) rfl rfl ?_
      refine XS.iconst X247.here hx rfl (hb hby at_109) ?_
      refine XS.iload X247.here hx rfl (hb hby at_110) rfl ?_
      refine st253 _ ?_
      refine XS.astore X253.here hx rfl (hb hby at_113) rfl rfl (l' := #[.val (.int wl), .val (.int wa), .val (.int wb), .val (.int wc), .val (.int wd), .val (.int 3), .val (.int c0), .val (.int c1), .val (.int c2), .val (.int c3), .val (.ref b234), .unset, .unset, .unset, .unset, .unset]) rfl ?_
      refine XS.goto X253.here hx rfl (pc0 := 115) (pc' := 143) rfl (hb hby at_115) (by decide) (by decide) ?_
      refine st258 _ ?_
      refine XS.dup X258.here hx rfl (hb hby at_146) rfl rfl ?_
      refine XS.aload X258.here hx rfl (hb hby at_147) rfl rfl ?_
      exact kt
    have f267 := (V253.ext E258)
    have hn269 : nar .char c0 = c0 := own_narc c0 hc0.1 hc0.2
    have hn270 : nar .char c1 = c1 := own_narc c1 hc1.1 hc1.2
    have hn271 : nar .char c2 = c2 := own_narc c2 hc2.1 hc2.2
    have Vx268 : Arv Z h258 b234 k234 .char (3 : Int32) [(.int c0), (.int c1), (.int c2)] (.int 0) := by
      have q := f267
      rw [hn269, hn270, hn271] at q; exact q
    have f272 := (f259.ext E258)
    have os273 := (own_st_ext (own_st_wr (own_st_wr (own_st_wr (own_st_ext Os E234) W241) W247) W253) E258)
    obtain ⟨_, _, ⟨T274, L274, k274, n274⟩, -, X274, ⟨Lc274, hQ274, l274, y274, z274⟩, st274⟩ := X258.specialBack hx (y := yn31) rfl hown (mvT hZ (ow hw 9 rfl)) (mvT hZ (ow hw 10 rfl)) (mvT hZ (ow hw 11 rfl)) (by decide) (backOf (W := 1) (rm_mu3 l Z a0 hw [] b258 b234 vcs vf k234 c0 c1 c2 h258 n0 Zs265 os273 A258 F258_coder F258_value g_b258 (Ne.symm ne_b234_b258) Vx268 hc0.1 hc1.1 hc2.1 hc0.2 hc1.2 hc2.2) hZ (ow hw 11 rfl) (ow hw 8 rfl) (by decide) (by decide)) (g := (mkF m 149 #[.val (.int wl), .val (.int wa), .val (.int wb), .val (.int wc), .val (.int wd), .val (.int 3), .val (.int c0), .val (.int c1), .val (.int c2), .val (.int c3), .val (.ref b234), .unset, .unset, .unset, .unset, .unset] [(.ref b234), (.ref b258), (.ref b258)])) rfl (by rw [hml]; rfl) (Steps.refl _) (a := b258) (argsL := [(.ref b234)]) (rest := [(.ref b258)]) (lenOf pd_21 rfl) rfl (by exact Nat.le_of_eq rfl) (hb hby at_149) (fun _ _ => ⟨rfl, e258, (by decide : 2 + 2 ≤ _), (by decide : 7 + 9 ≤ _)⟩)
    dsimp only [Pt.U, Pt.locs, Pt.cells, Pt.slots] at X274 l274 y274 z274 st274 hQ274
    rw [l274, y274, z274] at X274
    obtain ⟨rfl, N274q, K274, A274, ob, kb, gb, szb, Fv274, hO274⟩ := hQ274
    have N274 := Fr.app N253 N274q
    have sf275 := (Safe.keep K274 (sfS sf262 sf0) CR263.1 sf261)
    have sf276 := (Safe.keep K274 (sfS sf262 sf0) CR263.1 sf262)
    have CR277 := (CR263.trans (CHr.keep K274 (sfS sf262 sf0) CR263.1))
    have hk278 := Nat.le_trans hk264 K274.1
    have Zs279 : n0 ≤ T274.heap.size := Nat.le_trans Zs265 K274.1
    have ne_b234_ob : b234 ≠ ob := Nat.ne_of_lt (Nat.lt_of_lt_of_le Vx268.lt szb)
    have ne_b258_ob : b258 ≠ ob := Nat.ne_of_lt (Nat.lt_of_lt_of_le A258.lt szb)
    have sz_ob : h0.size ≤ ob := Nat.le_trans f272.1 szb
    have Sx274 : own_s3 Z T274.heap b258 ob kb c0 c1 c2 := ⟨A274, Fv274, hO274⟩
    have pre280 : oP p e below (T274.setTop (mkF m 154 #[.val (.int wl), .val (.int wa), .val (.int wb), .val (.int wc), .val (.int wd), .val (.int 3), .val (.int c0), .val (.int c1), .val (.int c2), .val (.int c3), .val (.ref b234), .val (.ref b258), .unset, .unset, .unset, .unset] [])) (SS) := fun t kt => by
      refine pre266 _ ?_
      refine st274.trans ?_
      refine XS.astore X274.here hx rfl (hb hby at_152) rfl rfl (l' := #[.val (.int wl), .val (.int wa), .val (.int wb), .val (.int wc), .val (.int wd), .val (.int 3), .val (.int c0), .val (.int c1), .val (.int c2), .val (.int c3), .val (.ref b234), .val (.ref b258), .unset, .unset, .unset, .unset]) rfl ?_
      exact kt
    obtain ⟨vn, hvn, pre295⟩ : ∃ vn : Int32, ((vn.toInt = 1 ∧ (c0.toInt = 0 ∨ c1.toInt = 0 ∨ c2.toInt = 0)) ∨ (vn.toInt = 0 ∧ ¬ (c0.toInt = 0 ∨ c1.toInt = 0 ∨ c2.toInt = 0))) ∧ ∀ t, Steps p.tables e below (T274.setTop (mkF m 202 #[.val (.int wl), .val (.int wa), .val (.int wb), .val (.int wc), .val (.int wd), .val (.int 3), .val (.int c0), .val (.int c1), .val (.int c2), .val (.int c3), .val (.ref b234), .val (.ref b258), .unset, .unset, .unset, .unset] [(.int vn)])) t → Steps p.tables e below (SS) t := by
      have hc156_281 : (0 : Int) < (3 : Int) := by decide
      have pre283 : oP p e below (T274.setTop (mkF m 161 #[.val (.int wl), .val (.int wa), .val (.int wb), .val (.int wc), .val (.int wd), .val (.int 3), .val (.int c0), .val (.int c1), .val (.int c2), .val (.int c3), .val (.ref b234), .val (.ref b258), .unset, .unset, .unset, .unset] [(.int c0)])) (SS) := fun t kt => by
        refine pre280 _ ?_
        refine XS.iload X274.here hx rfl (hb hby at_154) rfl ?_
        refine XS.ifNo X274.here hx rfl (hb hby at_156) rfl (own_if (own_tlt (a := (0 : Int32)) (b := (3 : Int32)) (by decide) (by decide) hc156_281).2.2.2) ?_
        refine XS.iload X274.here hx rfl (hb hby at_159) rfl ?_
        exact kt
      by_cases hc161_282 : c0.toInt = (0 : Int)
      · have pre284 : oP p e below (T274.setTop (mkF m 202 #[.val (.int wl), .val (.int wa), .val (.int wb), .val (.int wc), .val (.int wd), .val (.int 3), .val (.int c0), .val (.int c1), .val (.int c2), .val (.int c3), .val (.ref b234), .val (.ref b258), .unset, .unset, .unset, .unset] [(.int 1)])) (SS) := fun t kt => by
          refine pre283 _ ?_
          refine XS.ifYes X274.here hx rfl (pc0 := 161) (pc' := 197) rfl (hb hby at_161) rfl (own_if (own_teq (a := c0) (b := (0 : Int32)) rfl (by decide) hc161_282).1) (by decide) (by decide) ?_
          refine XS.iconst X274.here hx rfl (hb hby at_197) ?_
          refine XS.goto X274.here hx rfl (pc0 := 198) (pc' := 202) rfl (hb hby at_198) (by decide) (by decide) ?_
          exact kt
        exact ⟨(1 : Int32), by have iv : ((1 : Int32)).toInt = (1 : Int) := (by decide); omega, pre284⟩
      · have hc167_285 : (1 : Int) < (3 : Int) := by decide
        have pre287 : oP p e below (T274.setTop (mkF m 172 #[.val (.int wl), .val (.int wa), .val (.int wb), .val (.int wc), .val (.int wd), .val (.int 3), .val (.int c0), .val (.int c1), .val (.int c2), .val (.int c3), .val (.ref b234), .val (.ref b258), .unset, .unset, .unset, .unset] [(.int c1)])) (SS) := fun t kt => by
          refine pre283 _ ?_
          refine XS.ifNo X274.here hx rfl (hb hby at_161) rfl (own_if (own_feq (a := c0) (b := (0 : Int32)) rfl (by decide) hc161_282).1) ?_
          refine XS.iload X274.here hx rfl (hb hby at_164) rfl ?_
          refine XS.iconst X274.here hx rfl (hb hby at_166) ?_
          refine XS.icmpNo X274.here hx rfl (hb hby at_167) rfl (own_tlt (a := (1 : Int32)) (b := (3 : Int32)) (by decide) (by decide) hc167_285).2.2.2 ?_
          refine XS.iload X274.here hx rfl (hb hby at_170) rfl ?_
          exact kt
        by_cases hc172_286 : c1.toInt = (0 : Int)
        · have pre288 : oP p e below (T274.setTop (mkF m 202 #[.val (.int wl), .val (.int wa), .val (.int wb), .val (.int wc), .val (.int wd), .val (.int 3), .val (.int c0), .val (.int c1), .val (.int c2), .val (.int c3), .val (.ref b234), .val (.ref b258), .unset, .unset, .unset, .unset] [(.int 1)])) (SS) := fun t kt => by
            refine pre287 _ ?_
            refine XS.ifYes X274.here hx rfl (pc0 := 172) (pc' := 197) rfl (hb hby at_172) rfl (own_if (own_teq (a := c1) (b := (0 : Int32)) rfl (by decide) hc172_286).1) (by decide) (by decide) ?_
            show Steps p.tables e below (T274.setTop (mkF m 197 #[.val (.int wl), .val (.int wa), .val (.int wb), .val (.int wc), .val (.int wd), .val (.int 3), .val (.int c0), .val (.int c1), .val (.int c2), .val (.int c3), .val (.ref b234), .val (.ref b258), .unset, .unset, .unset, .unset] [])) _
            refine XS.iconst X274.here hx rfl (hb hby at_197) ?_
            refine XS.goto X274.here hx rfl (pc0 := 198) (pc' := 202) rfl (hb hby at_198) (by decide) (by decide) ?_
            exact kt
          exact ⟨(1 : Int32), by have iv : ((1 : Int32)).toInt = (1 : Int) := (by decide); omega, pre288⟩
        · have hc178_289 : (2 : Int) < (3 : Int) := by decide
          have pre291 : oP p e below (T274.setTop (mkF m 183 #[.val (.int wl), .val (.int wa), .val (.int wb), .val (.int wc), .val (.int wd), .val (.int 3), .val (.int c0), .val (.int c1), .val (.int c2), .val (.int c3), .val (.ref b234), .val (.ref b258), .unset, .unset, .unset, .unset] [(.int c2)])) (SS) := fun t kt => by
            refine pre287 _ ?_
            refine XS.ifNo X274.here hx rfl (hb hby at_172) rfl (own_if (own_feq (a := c1) (b := (0 : Int32)) rfl (by decide) hc172_286).1) ?_
            show Steps p.tables e below (T274.setTop (mkF m 175 #[.val (.int wl), .val (.int wa), .val (.int wb), .val (.int wc), .val (.int wd), .val (.int 3), .val (.int c0), .val (.int c1), .val (.int c2), .val (.int c3), .val (.ref b234), .val (.ref b258), .unset, .unset, .unset, .unset] [])) _
            refine XS.iload X274.here hx rfl (hb hby at_175) rfl ?_
            refine XS.iconst X274.here hx rfl (hb hby at_177) ?_
            refine XS.icmpNo X274.here hx rfl (hb hby at_178) rfl (own_tlt (a := (2 : Int32)) (b := (3 : Int32)) (by decide) (by decide) hc178_289).2.2.2 ?_
            refine XS.iload X274.here hx rfl (hb hby at_181) rfl ?_
            exact kt
          by_cases hc183_290 : c2.toInt = (0 : Int)
          · have pre292 : oP p e below (T274.setTop (mkF m 202 #[.val (.int wl), .val (.int wa), .val (.int wb), .val (.int wc), .val (.int wd), .val (.int 3), .val (.int c0), .val (.int c1), .val (.int c2), .val (.int c3), .val (.ref b234), .val (.ref b258), .unset, .unset, .unset, .unset] [(.int 1)])) (SS) := fun t kt => by
              refine pre291 _ ?_
              refine XS.ifYes X274.here hx rfl (pc0 := 183) (pc' := 197) rfl (hb hby at_183) rfl (own_if (own_teq (a := c2) (b := (0 : Int32)) rfl (by decide) hc183_290).1) (by decide) (by decide) ?_
              refine XS.iconst X274.here hx rfl (hb hby at_197) ?_
              refine XS.goto X274.here hx rfl (pc0 := 198) (pc' := 202) rfl (hb hby at_198) (by decide) (by decide) ?_
              exact kt
            exact ⟨(1 : Int32), by have iv : ((1 : Int32)).toInt = (1 : Int) := (by decide); omega, pre292⟩
          · have hc189_293 : ¬ ((3 : Int) < (3 : Int)) := by decide
            have pre294 : oP p e below (T274.setTop (mkF m 202 #[.val (.int wl), .val (.int wa), .val (.int wb), .val (.int wc), .val (.int wd), .val (.int 3), .val (.int c0), .val (.int c1), .val (.int c2), .val (.int c3), .val (.ref b234), .val (.ref b258), .unset, .unset, .unset, .unset] [(.int 0)])) (SS) := fun t kt => by
              refine pre291 _ ?_
              refine XS.ifNo X274.here hx rfl (hb hby at_183) rfl (own_if (own_feq (a := c2) (b := (0 : Int32)) rfl (by decide) hc183_290).1) ?_
              refine XS.iload X274.here hx rfl (hb hby at_186) rfl ?_
              refine XS.iconst X274.here hx rfl (hb hby at_188) ?_
              refine XS.icmpYes X274.here hx rfl (pc0 := 189) (pc' := 201) rfl (hb hby at_189) rfl (own_flt (a := (3 : Int32)) (b := (3 : Int32)) (by decide) (by decide) hc189_293).2.2.2 (by decide) (by decide) ?_
              refine XS.iconst X274.here hx rfl (hb hby at_201) ?_
              exact kt
            exact ⟨(0 : Int32), by have iv : ((0 : Int32)).toInt = (0 : Int) := (by decide); omega, pre294⟩
    have pre296 : oP p e below (T274.setTop (mkF m 204 #[.val (.int wl), .val (.int wa), .val (.int wb), .val (.int wc), .val (.int wd), .val (.int 3), .val (.int c0), .val (.int c1), .val (.int c2), .val (.int c3), .val (.ref b234), .val (.ref b258), .val (.int vn), .unset, .unset, .unset] [])) (SS) := fun t kt => by
      refine pre295 _ ?_
      refine XS.istore X274.here hx rfl (hb hby at_202) rfl (l' := #[.val (.int wl), .val (.int wa), .val (.int wb), .val (.int wc), .val (.int wd), .val (.int 3), .val (.int c0), .val (.int c1), .val (.int c2), .val (.int c3), .val (.ref b234), .val (.ref b258), .val (.int vn), .unset, .unset, .unset]) rfl ?_
      exact kt
    obtain ⟨vdt, hvdt, pre299⟩ : ∃ vdt : Int32, ((vdt.toInt = 1 ∧ ((0 : Int) = 1)) ∨ (vdt.toInt = 0 ∧ ¬ ((0 : Int) = 1))) ∧ ∀ t, Steps p.tables e below (T274.setTop (mkF m 222 #[.val (.int wl), .val (.int wa), .val (.int wb), .val (.int wc), .val (.int wd), .val (.int 3), .val (.int c0), .val (.int c1), .val (.int c2), .val (.int c3), .val (.ref b234), .val (.ref b258), .val (.int vn), .unset, .unset, .unset] [(.int vdt)])) t → Steps p.tables e below (SS) t := by
      have hc207_297 : ¬ ((3 : Int) = (1 : Int)) := by decide
      have pre298 : oP p e below (T274.setTop (mkF m 222 #[.val (.int wl), .val (.int wa), .val (.int wb), .val (.int wc), .val (.int wd), .val (.int 3), .val (.int c0), .val (.int c1), .val (.int c2), .val (.int c3), .val (.ref b234), .val (.ref b258), .val (.int vn), .unset, .unset, .unset] [(.int 0)])) (SS) := fun t kt => by
        refine pre296 _ ?_
        refine XS.iload X274.here hx rfl (hb hby at_204) rfl ?_
        refine XS.iconst X274.here hx rfl (hb hby at_206) ?_
        refine XS.icmpYes X274.here hx rfl (pc0 := 207) (pc' := 221) rfl (hb hby at_207) rfl (own_feq (a := (3 : Int32)) (b := (1 : Int32)) (by decide) (by decide) hc207_297).2 (by decide) (by decide) ?_
        refine XS.iconst X274.here hx rfl (hb hby at_221) ?_
        exact kt
      exact ⟨(0 : Int32), by have iv : ((0 : Int32)).toInt = (0 : Int) := (by decide); omega, pre298⟩
    have pre300 : oP p e below (T274.setTop (mkF m 224 #[.val (.int wl), .val (.int wa), .val (.int wb), .val (.int wc), .val (.int wd), .val (.int 3), .val (.int c0), .val (.int c1), .val (.int c2), .val (.int c3), .val (.ref b234), .val (.ref b258), .val (.int vn), .val (.int vdt), .unset, .unset] [])) (SS) := fun t kt => by
      refine pre299 _ ?_
      refine XS.istore X274.here hx rfl (hb hby at_222) rfl (l' := #[.val (.int wl), .val (.int wa), .val (.int wb), .val (.int wc), .val (.int wd), .val (.int 3), .val (.int c0), .val (.int c1), .val (.int c2), .val (.int c3), .val (.ref b234), .val (.ref b258), .val (.int vn), .val (.int vdt), .unset, .unset]) rfl ?_
      exact kt
    obtain ⟨vdd, hvdd, pre303⟩ : ∃ vdd : Int32, ((vdd.toInt = 1 ∧ ((0 : Int) = 1)) ∨ (vdd.toInt = 0 ∧ ¬ ((0 : Int) = 1))) ∧ ∀ t, Steps p.tables e below (T274.setTop (mkF m 249 #[.val (.int wl), .val (.int wa), .val (.int wb), .val (.int wc), .val (.int wd), .val (.int 3), .val (.int c0), .val (.int c1), .val (.int c2), .val (.int c3), .val (.ref b234), .val (.ref b258), .val (.int vn), .val (.int vdt), .unset, .unset] [(.int vdd)])) t → Steps p.tables e below (SS) t := by
      have hc227_301 : ¬ ((3 : Int) = (2 : Int)) := by decide
      have pre302 : oP p e below (T274.setTop (mkF m 249 #[.val (.int wl), .val (.int wa), .val (.int wb), .val (.int wc), .val (.int wd), .val (.int 3), .val (.int c0), .val (.int c1), .val (.int c2), .val (.int c3), .val (.ref b234), .val (.ref b258), .val (.int vn), .val (.int vdt), .unset, .unset] [(.int 0)])) (SS) := fun t kt => by
        refine pre300 _ ?_
        refine XS.iload X274.here hx rfl (hb hby at_224) rfl ?_
        refine XS.iconst X274.here hx rfl (hb hby at_226) ?_
        refine XS.icmpYes X274.here hx rfl (pc0 := 227) (pc' := 248) rfl (hb hby at_227) rfl (own_feq (a := (3 : Int32)) (b := (2 : Int32)) (by decide) (by decide) hc227_301).2 (by decide) (by decide) ?_
        refine XS.iconst X274.here hx rfl (hb hby at_248) ?_
        exact kt
      exact ⟨(0 : Int32), by have iv : ((0 : Int32)).toInt = (0 : Int) := (by decide); omega, pre302⟩
    have pre304 : oP p e below (T274.setTop (mkF m 251 #[.val (.int wl), .val (.int wa), .val (.int wb), .val (.int wc), .val (.int wd), .val (.int 3), .val (.int c0), .val (.int c1), .val (.int c2), .val (.int c3), .val (.ref b234), .val (.ref b258), .val (.int vn), .val (.int vdt), .val (.int vdd), .unset] [])) (SS) := fun t kt => by
      refine pre303 _ ?_
      refine XS.istore X274.here hx rfl (hb hby at_249) rfl (l' := #[.val (.int wl), .val (.int wa), .val (.int wb), .val (.int wc), .val (.int wd), .val (.int 3), .val (.int c0), .val (.int c1), .val (.int c2), .val (.int c3), .val (.ref b234), .val (.ref b258), .val (.int vn), .val (.int vdt), .val (.int vdd), .unset]) rfl ?_
      exact kt
    obtain ⟨vex, hvex, pre316⟩ : ∃ vex : Int32, ((vex.toInt = 1 ∧ (¬ (c0.toInt = 0 ∨ c1.toInt = 0 ∨ c2.toInt = 0))) ∨ (vex.toInt = 0 ∧ ¬ (¬ (c0.toInt = 0 ∨ c1.toInt = 0 ∨ c2.toInt = 0)))) ∧ ∀ t, Steps p.tables e below (T274.setTop (mkF m 276 #[.val (.int wl), .val (.int wa), .val (.int wb), .val (.int wc), .val (.int wd), .val (.int 3), .val (.int c0), .val (.int c1), .val (.int c2), .val (.int c3), .val (.ref b234), .val (.ref b258), .val (.int vn), .val (.int vdt), .val (.int vdd), .unset] [(.int vex)])) t → Steps p.tables e below (SS) t := by
      have hc253_305 : (0 : Int) < (3 : Int) := by decide
      have pre307 : oP p e below (T274.setTop (mkF m 258 #[.val (.int wl), .val (.int wa), .val (.int wb), .val (.int wc), .val (.int wd), .val (.int 3), .val (.int c0), .val (.int c1), .val (.int c2), .val (.int c3), .val (.ref b234), .val (.ref b258), .val (.int vn), .val (.int vdt), .val (.int vdd), .unset] [(.int vdt)])) (SS) := fun t kt => by
        refine pre304 _ ?_
        refine XS.iload X274.here hx rfl (hb hby at_251) rfl ?_
        refine XS.ifNo X274.here hx rfl (hb hby at_253) rfl (own_if (own_tlt (a := (0 : Int32)) (b := (3 : Int32)) (by decide) (by decide) hc253_305).2.2.2) ?_
        refine XS.iload X274.here hx rfl (hb hby at_256) rfl ?_
        exact kt
      by_cases hc258_306 : vdt.toInt = (0 : Int)
      · have pre309 : oP p e below (T274.setTop (mkF m 263 #[.val (.int wl), .val (.int wa), .val (.int wb), .val (.int wc), .val (.int wd), .val (.int 3), .val (.int c0), .val (.int c1), .val (.int c2), .val (.int c3), .val (.ref b234), .val (.ref b258), .val (.int vn), .val (.int vdt), .val (.int vdd), .unset] [(.int vdd)])) (SS) := fun t kt => by
          refine pre307 _ ?_
          refine XS.ifNo X274.here hx rfl (hb hby at_258) rfl (own_if (own_teq (a := vdt) (b := (0 : Int32)) rfl (by decide) hc258_306).2) ?_
          refine XS.iload X274.here hx rfl (hb hby at_261) rfl ?_
          exact kt
        by_cases hc263_308 : vdd.toInt = (0 : Int)
        · have pre311 : oP p e below (T274.setTop (mkF m 268 #[.val (.int wl), .val (.int wa), .val (.int wb), .val (.int wc), .val (.int wd), .val (.int 3), .val (.int c0), .val (.int c1), .val (.int c2), .val (.int c3), .val (.ref b234), .val (.ref b258), .val (.int vn), .val (.int vdt), .val (.int vdd), .unset] [(.int vn)])) (SS) := fun t kt => by
            refine pre309 _ ?_
            refine XS.ifNo X274.here hx rfl (hb hby at_263) rfl (own_if (own_teq (a := vdd) (b := (0 : Int32)) rfl (by decide) hc263_308).2) ?_
            show Steps p.tables e below (T274.setTop (mkF m 266 #[.val (.int wl), .val (.int wa), .val (.int wb), .val (.int wc), .val (.int wd), .val (.int 3), .val (.int c0), .val (.int c1), .val (.int c2), .val (.int c3), .val (.ref b234), .val (.ref b258), .val (.int vn), .val (.int vdt), .val (.int vdd), .unset] [])) _
            refine XS.iload X274.here hx rfl (hb hby at_266) rfl ?_
            exact kt
          by_cases hc268_310 : vn.toInt = (0 : Int)
          · have pre312 : oP p e below (T274.setTop (mkF m 276 #[.val (.int wl), .val (.int wa), .val (.int wb), .val (.int wc), .val (.int wd), .val (.int 3), .val (.int c0), .val (.int c1), .val (.int c2), .val (.int c3), .val (.ref b234), .val (.ref b258), .val (.int vn), .val (.int vdt), .val (.int vdd), .unset] [(.int 1)])) (SS) := fun t kt => by
              refine pre311 _ ?_
              refine XS.ifNo X274.here hx rfl (hb hby at_268) rfl (own_if (own_teq (a := vn) (b := (0 : Int32)) rfl (by decide) hc268_310).2) ?_
              refine XS.iconst X274.here hx rfl (hb hby at_271) ?_
              refine XS.goto X274.here hx rfl (pc0 := 272) (pc' := 276) rfl (hb hby at_272) (by decide) (by decide) ?_
              exact kt
            exact ⟨(1 : Int32), by have iv : ((1 : Int32)).toInt = (1 : Int) := (by decide); omega, pre312⟩
          · have pre313 : oP p e below (T274.setTop (mkF m 276 #[.val (.int wl), .val (.int wa), .val (.int wb), .val (.int wc), .val (.int wd), .val (.int 3), .val (.int c0), .val (.int c1), .val (.int c2), .val (.int c3), .val (.ref b234), .val (.ref b258), .val (.int vn), .val (.int vdt), .val (.int vdd), .unset] [(.int 0)])) (SS) := fun t kt => by
              refine pre311 _ ?_
              refine XS.ifYes X274.here hx rfl (pc0 := 268) (pc' := 275) rfl (hb hby at_268) rfl (own_if (own_feq (a := vn) (b := (0 : Int32)) rfl (by decide) hc268_310).2) (by decide) (by decide) ?_
              refine XS.iconst X274.here hx rfl (hb hby at_275) ?_
              exact kt
            exact ⟨(0 : Int32), by have iv : ((0 : Int32)).toInt = (0 : Int) := (by decide); omega, pre313⟩
        · have pre314 : oP p e below (T274.setTop (mkF m 276 #[.val (.int wl), .val (.int wa), .val (.int wb), .val (.int wc), .val (.int wd), .val (.int 3), .val (.int c0), .val (.int c1), .val (.int c2), .val (.int c3), .val (.ref b234), .val (.ref b258), .val (.int vn), .val (.int vdt), .val (.int vdd), .unset] [(.int 0)])) (SS) := fun t kt => by
            refine pre309 _ ?_
            refine XS.ifYes X274.here hx rfl (pc0 := 263) (pc' := 275) rfl (hb hby at_263) rfl (own_if (own_feq (a := vdd) (b := (0 : Int32)) rfl (by decide) hc263_308).2) (by decide) (by decide) ?_
            show Steps p.tables e below (T274.setTop (mkF m 275 #[.val (.int wl), .val (.int wa), .val (.int wb), .val (.int wc), .val (.int wd), .val (.int 3), .val (.int c0), .val (.int c1), .val (.int c2), .val (.int c3), .val (.ref b234), .val (.ref b258), .val (.int vn), .val (.int vdt), .val (.int vdd), .unset] [])) _
            refine XS.iconst X274.here hx rfl (hb hby at_275) ?_
            exact kt
          exact ⟨(0 : Int32), by have iv : ((0 : Int32)).toInt = (0 : Int) := (by decide); omega, pre314⟩
      · have pre315 : oP p e below (T274.setTop (mkF m 276 #[.val (.int wl), .val (.int wa), .val (.int wb), .val (.int wc), .val (.int wd), .val (.int 3), .val (.int c0), .val (.int c1), .val (.int c2), .val (.int c3), .val (.ref b234), .val (.ref b258), .val (.int vn), .val (.int vdt), .val (.int vdd), .unset] [(.int 0)])) (SS) := fun t kt => by
          refine pre307 _ ?_
          refine XS.ifYes X274.here hx rfl (pc0 := 258) (pc' := 275) rfl (hb hby at_258) rfl (own_if (own_feq (a := vdt) (b := (0 : Int32)) rfl (by decide) hc258_306).2) (by decide) (by decide) ?_
          refine XS.iconst X274.here hx rfl (hb hby at_275) ?_
          exact kt
        exact ⟨(0 : Int32), by have iv : ((0 : Int32)).toInt = (0 : Int) := (by decide); omega, pre315⟩
    have pre317 : oP p e below (T274.setTop (mkF m 280 #[.val (.int wl), .val (.int wa), .val (.int wb), .val (.int wc), .val (.int wd), .val (.int 3), .val (.int c0), .val (.int c1), .val (.int c2), .val (.int c3), .val (.ref b234), .val (.ref b258), .val (.int vn), .val (.int vdt), .val (.int vdd), .val (.int vex)] [(.ref b258)])) (SS) := fun t kt => by
      refine pre316 _ ?_
      refine XS.istore X274.here hx rfl (hb hby at_276) rfl (l' := #[.val (.int wl), .val (.int wa), .val (.int wb), .val (.int wc), .val (.int wd), .val (.int 3), .val (.int c0), .val (.int c1), .val (.int c2), .val (.int c3), .val (.ref b234), .val (.ref b258), .val (.int vn), .val (.int vdt), .val (.int vdd), .val (.int vex)]) rfl ?_
      refine XS.aload X274.here hx rfl (hb hby at_278) rfl rfl ?_
      exact kt
    have os318 := (own_st_keep os273 K274 (nsS A258.nostat ns0))
    have f320 := (Vx268.keep K274 (ninS ne_b234_b258 nin0))
    obtain ⟨_, _, ⟨T319, L319, k319, n319⟩, -, Xp319, hSp319, hgp319, ⟨Lc319, hQ319, l319, y319, z319, CRn319⟩, st319⟩ := callSS X274 hx (y := yn22) hown (mvT hZ (ow hw 27 rfl)) (mvT hZ (ow hw 28 rfl)) (mvT hZ (ow hw 29 rfl)) (mvT hZ (ow hw 30 rfl)) (by decide) (backOfSH (W := 0) (rm_nm3 l Z a0 hw [] b258 vcs vf ob kb c0 c1 c2 T274.heap n0 Zs279 os318 Sx274 hc0.1 hc1.1 hc2.1 hc0.2 hc1.2 hc2.2) hZ (ow hw 30 rfl) (ow hw 29 rfl) (by decide) (by decide) hEL CR277.1) (g := (mkF m 280 #[.val (.int wl), .val (.int wa), .val (.int wb), .val (.int wc), .val (.int wd), .val (.int 3), .val (.int c0), .val (.int c1), .val (.int c2), .val (.int c3), .val (.ref b234), .val (.ref b258), .val (.int vn), .val (.int vdt), .val (.int vdd), .val (.int vex)] [(.ref b258)])) rfl (by rw [hml]; rfl) (argsL := [(.ref b258)]) (rest := []) (lenOf pd_22 rfl) rfl (by exact Nat.le_of_eq rfl) (hb hby at_280) (fun _ _ => ⟨rfl, rfl, (by decide : 4 + 4 ≤ _), (by decide : 16 + 20 ≤ _)⟩)
    dsimp only [Pt.U, Pt.locs, Pt.cells, Pt.slots] at Xp319 hSp319 hgp319 l319 y319 z319 st319 hQ319 CRn319
    rw [l319, y319, z319] at Xp319
    obtain ⟨X319, hS319, hZ, hown⟩ := rebS hS0 (n1 := T274.heap.size) hk278 Xp319 hSp319 hgp319 hZ hown
    have sf321 := CRn319.safe f320.lt sf275
    have sf322 := CRn319.safe A274.lt sf276
    have CR323 := CR277.trans CRn319
    obtain ⟨zu, rfl, hzu, N319q, K319⟩ := hQ319
    have N319 := Fr.app N274 N319q
    have Zs324 : n0 ≤ T319.heap.size := Nat.le_trans Zs279 K319.1
    have hc285_325 : zu.toInt = vex.toInt := by omega
    subst hSS
    obtain ⟨fs, hr, hrun, hended, hREW⟩ := X319.leaveW hS319 (Nat.le_refl T319.heap.size) (v := some (.int 1)) (fun h => by rw [Bd.returns] at h; cases h)
    refine ⟨_, _, pre317 _ ?_, hrun, hended, _, _, rfl, ?_, ?_, ⟨hREW.1, hREW.2.1, hREW.2.2.1, hREW.2.2.2.mono (by decide) (by decide)⟩⟩
    · refine st319.trans ?_
      refine XS.iload X319.here hx rfl (hb hby at_283) rfl ?_
      refine XS.icmpNo X319.here hx rfl (hb hby at_285) rfl (own_teq (a := zu) (b := vex) rfl rfl hc285_325).2 ?_
      refine XS.iconst X319.here hx rfl (hb hby at_288) ?_
      show Steps p.tables e below (T319.setTop (mkF m 289 #[.val (.int wl), .val (.int wa), .val (.int wb), .val (.int wc), .val (.int wd), .val (.int 3), .val (.int c0), .val (.int c1), .val (.int c2), .val (.int c3), .val (.ref b234), .val (.ref b258), .val (.int vn), .val (.int vdt), .val (.int vdd), .val (.int vex)] [(.int 1)])) _
      refine XS.goto X319.here hx rfl (pc0 := 289) (pc' := 293) rfl (hb hby at_289) (by decide) (by decide) ?_
      exact retN X319 hx (t := .boolean) Bd.returns (by simp) (hb hby at_293) hr
    · show Q0 Z _ _ _ _ _ _ _ h0 n0 _ T319.heap _
      exact ⟨rfl, N319⟩
    · show CHr Z own_EL s.vm s.heap T319.vm T319.heap
      rw [hh]
      exact CR323.trans (CHv.at X319 hZ hEL CR323.1)
  · have pre326 : oP p e below (T10.setTop (mkF m 33 #[.val (.int wl), .val (.int wa), .val (.int wb), .val (.int wc), .val (.int wd), .val (.int 4), .val (.int c0), .val (.int c1), .val (.int c2), .val (.int c3), .unset, .unset, .unset, .unset, .unset, .unset] [])) (SS) := pre12
    have hc35_327 : ¬ ((4 : Int) = (0 : Int)) := by decide
    have hc49_328 : ¬ ((4 : Int) = (1 : Int)) := by decide
    have hc68_329 : ¬ ((4 : Int) = (2 : Int)) := by decide
    have hc92_330 : ¬ ((4 : Int) = (3 : Int)) := by decide
    obtain ⟨T331, h331, k331, X331, e331, E331, A331, st331⟩ := newP X10 hx hZ (ow hw 5 rfl) e10 (g := (mkF m 119 #[.val (.int wl), .val (.int wa), .val (.int wb), .val (.int wc), .val (.int wd), .val (.int 4), .val (.int c0), .val (.int c1), .val (.int c2), .val (.int c3), .unset, .unset, .unset, .unset, .unset, .unset] [(.int 4)])) rfl (hb hby at_119) rfl (by decide) (cap := 4) (by decide) (by decide) (by decide) (by decide)
    obtain ⟨b331, g331⟩ : ∃ z, z = h0.size := ⟨_, rfl⟩
    have g_b331 : n0 ≤ b331 := Nat.le_trans Z0 (Nat.le_of_eq g331.symm)
    have sz_b331 : h0.size ≤ b331 := Nat.le_trans (Keep.refl h0 []).1 (Nat.le_of_eq g331.symm)
    have sf332 : Safe Z own_EL s.vm h0 b331 := Safe.new (Nat.le_of_eq g331.symm)
    rw [← g331] at A331 st331
    have sf333 := (Safe.ext E331 CR0.1 sf332)
    have CR334 := (CR0.trans (CHr.ext E331 CR0.1))
    have hk335 := Nat.le_trans hk0 E331.1
    have Zs336 : n0 ≤ h331.size := Nat.le_trans Z0 E331.1
    have V331 : Arv Z h331 b331 k331 .char (4 : Int32) [(.int 0), (.int 0), (.int 0), (.int 0)] (.int 0) := (Arv.new A331 (by decide)).pad (pad_rep [] (.int 0) 4)
    obtain ⟨cl337, Ar337, q337, S337, M337, H337, G337⟩ := id V331
    have hin337 : ¬ ((0 : Int32) < 0 ∨ cl337.slots.size ≤ ((0 : Int32)).toNatClampNeg) := inb_of S337 ⟨by decide, by decide⟩
    obtain ⟨T338, h338, X338, e338, W338, st338⟩ := stC X331 hx hZ e331 Ar337 (j := (0 : Int32)) hin337 (g := (mkF m 125 #[.val (.int wl), .val (.int wa), .val (.int wb), .val (.int wc), .val (.int wd), .val (.int 4), .val (.int c0), .val (.int c1), .val (.int c2), .val (.int c3), .unset, .unset, .unset, .unset, .unset, .unset] [(.int c0), (.int 0), (.ref b331), (.ref b331)])) rfl rfl (hb hby at_125)
    have N338 := Fr.snoc X338 N10 g_b331
    have sf339 := (Safe.wr W338 sf333 CR334.1 sf333)
    have CR340 := (CR334.trans (CHr.wr W338 sf333 CR334.1))
    have hk341 := Nat.le_trans hk335 (Nat.le_of_eq W338.size.symm)
    have Zs342 : n0 ≤ h338.size := by rw [W338.size]; exact Zs336
    have V338 : Arv Z h338 b331 k331 .char (4 : Int32) [(.int (nar .char c0)), (.int 0), (.int 0), (.int 0)] (.int 0) := Arv.set Ar337 q337 S337 M337 H337 G337 (fits_nar_char _) W338 0 rfl (Nat.le_of_ble_eq_true rfl)
    obtain ⟨cl343, Ar343, q343, S343, M343, H343, G343⟩ := id V338
    have hin343 : ¬ ((1 : Int32) < 0 ∨ cl343.slots.size ≤ ((1 : Int32)).toNatClampNeg) := inb_of S343 ⟨by decide, by decide⟩
    obtain ⟨T344, h344, X344, e344, W344, st344⟩ := stC X338 hx hZ e338 Ar343 (j := (1 : Int32)) hin343 (g := (mkF m 130 #[.val (.int wl), .val (.int wa), .val (.int wb), .val (.int wc), .val (.int wd), .val (.int 4), .val (.int c0), .val (.int c1), .val (.int c2), .val (.int c3), .unset, .unset, .unset, .unset, .unset, .unset] [(.int c1), (.int 1), (.ref b331), (.ref b331)])) rfl rfl (hb hby at_130)
    have N344 := Fr.snoc X344 N338 g_b331
    have sf345 := (Safe.wr W344 sf339 CR340.1 sf339)
    have CR346 := (CR340.trans (CHr.wr W344 sf339 CR340.1))
    have hk347 := Nat.le_trans hk341 (Nat.le_of_eq W344.size.symm)
    have Zs348 : n0 ≤ h344.size := by rw [W344.size]; exact Zs342
    have V344 : Arv Z h344 b331 k331 .char (4 : Int32) [(.int (nar .char c0)), (.int (nar .char c1)), (.int 0), (.int 0)] (.int 0) := Arv.set Ar343 q343 S343 M343 H343 G343 (fits_nar_char _) W344 1 rfl (Nat.le_of_ble_eq_true rfl)
    obtain ⟨cl349, Ar349, q349, S349, M349, H349, G349⟩ := id V344
    have hin349 : ¬ ((2 : Int32) < 0 ∨ cl349.slots.size ≤ ((2 : Int32)).toNatClampNeg) := inb_of S349 ⟨by decide, by decide⟩
    obtain ⟨T350, h350, X350, e350, W350, st350⟩ := stC X344 hx hZ e344 Ar349 (j := (2 : Int32)) hin349 (g := (mkF m 135 #[.val (.int wl), .val (.int wa), .val (.int wb), .val (.int wc), .val (.int wd), .val (.int 4), .val (.int c0), .val (.int c1), .val (.int c2), .val (.int c3), .unset, .unset, .unset, .unset, .unset, .unset] [(.int c2), (.int 2), (.ref b331), (.ref b331)])) rfl rfl (hb hby at_135)
    have N350 := Fr.snoc X350 N344 g_b331
    have sf351 := (Safe.wr W350 sf345 CR346.1 sf345)
    have CR352 := (CR346.trans (CHr.wr W350 sf345 CR346.1))
    have hk353 := Nat.le_trans hk347 (Nat.le_of_eq W350.size.symm)
    have Zs354 : n0 ≤ h350.size := by rw [W350.size]; exact Zs348
    have V350 : Arv Z h350 b331 k331 .char (4 : Int32) [(.int (nar .char c0)), (.int (nar .char c1)), (.int (nar .char c2)), (.int 0)] (.int 0) := Arv.set Ar349 q349 S349 M349 H349 G349 (fits_nar_char _) W350 2 rfl (Nat.le_of_ble_eq_true rfl)
    obtain ⟨cl355, Ar355, q355, S355, M355, H355, G355⟩ := id V350
    have hin355 : ¬ ((3 : Int32) < 0 ∨ cl355.slots.size ≤ ((3 : Int32)).toNatClampNeg) := inb_of S355 ⟨by decide, by decide⟩
    obtain ⟨T356, h356, X356, e356, W356, st356⟩ := stC X350 hx hZ e350 Ar355 (j := (3 : Int32)) hin355 (g := (mkF m 140 #[.val (.int wl), .val (.int wa), .val (.int wb), .val (.int wc), .val (.int wd), .val (.int 4), .val (.int c0), .val (.int c1), .val (.int c2), .val (.int c3), .unset, .unset, .unset, .unset, .unset, .unset] [(.int c3), (.int 3), (.ref b331), (.ref b331)])) rfl rfl (hb hby at_140)
    have N356 := Fr.snoc X356 N350 g_b331
    have sf357 := (Safe.wr W356 sf351 CR352.1 sf351)
    have CR358 := (CR352.trans (CHr.wr W356 sf351 CR352.1))
    have hk359 := Nat.le_trans hk353 (Nat.le_of_eq W356.size.symm)
    have Zs360 : n0 ≤ h356.size := by rw [W356.size]; exact Zs354
    have V356 : Arv Z h356 b331 k331 .char (4 : Int32) [(.int (nar .char c0)), (.int (nar .char c1)), (.int (nar .char c2)), (.int (nar .char c3))] (.int 0) := Arv.set Ar355 q355 S355 M355 H355 G355 (fits_nar_char _) W356 3 rfl (Nat.le_of_ble_eq_true rfl)
    obtain ⟨T361, h361, X361, e361, E361, A361, D361, -, st361⟩ := newO X356 hx hZ hown (ow hw 6 rfl) (ow hw 7 rfl) (ow hw 8 rfl) e356 (g := (mkF m 143 #[.val (.int wl), .val (.int wa), .val (.int wb), .val (.int wc), .val (.int wd), .val (.int 4), .val (.int c0), .val (.int c1), .val (.int c2), .val (.int c3), .val (.ref b331), .unset, .unset, .unset, .unset, .unset] [])) rfl (hb hby at_143) (by decide) (by decide)
    obtain ⟨b361, g361⟩ : ∃ z, z = h356.size := ⟨_, rfl⟩
    have ne_b331_b361 : b331 ≠ b361 := Nat.ne_of_lt (Nat.lt_of_lt_of_le V356.lt (Nat.le_of_eq g361.symm))
    have g_b361 : n0 ≤ b361 := Nat.le_trans Zs360 (Nat.le_of_eq g361.symm)
    have f362 := ((((((Keep.refl h0 []).ext E331).wr W338 (Or.inr sz_b331)).wr W344 (Or.inr sz_b331)).wr W350 (Or.inr sz_b331)).wr W356 (Or.inr sz_b331))
    have sz_b361 : h0.size ≤ b361 := Nat.le_trans f362.1 (Nat.le_of_eq g361.symm)
    have sf363 : Safe Z own_EL s.vm h356 b361 := Safe.new (Nat.le_of_eq g361.symm)
    rw [← g361] at A361 D361 st361
    have sf364 := (Safe.ext E361 CR358.1 sf357)
    have sf365 := (Safe.ext E361 CR358.1 sf363)
    have CR366 := (CR358.trans (CHr.ext E361 CR358.1))
    have hk367 := Nat.le_trans hk359 E361.1
    have Zs368 : n0 ≤ h361.size := Nat.le_trans Zs360 E361.1
    have F361_value : Fld Z h361 b361 "java/lang/String" "value" "[B" .null := D361 (Or.inr (ow hw 21 rfl)) (ty := (.array .byte)) (by decide)
    have F361_coder : Fld Z h361 b361 "java/lang/String" "coder" "B" (.int 0) := D361 (Or.inr (ow hw 22 rfl)) (ty := .byte) (by decide)
    have pre369 : oP p e below (T361.setTop (mkF m 149 #[.val (.int wl), .val (.int wa), .val (.int wb), .val (.int wc), .val (.int wd), .val (.int 4), .val (.int c0), .val (.int c1), .val (.int c2), .val (.int c3), .val (.ref b331), .unset, .unset, .unset, .unset, .unset] [(.ref b331), (.ref b361), (.ref b361)])) (SS) := fun t kt => by
      refine pre326 _ ?_
      refine XS.iload X10.here hx rfl (hb hby at_33) rfl ?_
      show Steps p.tables e below (T10.setTop (mkF m 35 #[.val (.int wl), .val (.int wa), .val (.int wb), .val (.int wc), .val (.int wd), .val (.int 4), .val (.int c0), .val (.int c1), .val (.int c2), .val (.int c3), .unset, .unset, .unset, .unset, .unset, .unset] [(.int 4)])) _
      refine XS.ifYes X10.here hx rfl (pc0 := 35) (pc' := 46) rfl (hb hby at_35) rfl (own_if (own_feq (a := (4 : Int32)) (b := (0 : Int32)) (by decide) (by decide) hc35_327).2) (by decide) (by decide) ?_
      refine XS.iload X10.here hx rfl (hb hby at_46) rfl ?_
      refine XS.iconst X10.here hx rfl (hb hby at_48) ?_
      refine XS.icmpYes X10.here hx rfl (pc0 := 49) (pc' := 65) rfl (hb hby at_49) rfl (own_feq (a := (4 : Int32)) (b := (1 : Int32)) (by decide) (by decide) hc49_328).2 (by decide) (by decide) ?_
      refine XS.iload X10.here hx rfl (hb hby at_65) rfl ?_
      refine XS.iconst X10.here hx rfl (hb hby at_67) ?_
      refine XS.icmpYes X10.here hx rfl (pc0 := 68) (pc' := 89) rfl (hb hby at_68) rfl (own_feq (a := (4 : Int32)) (b := (2 : Int32)) (by decide) (by decide) hc68_329).2 (by decide) (by decide) ?_
      refine XS.iload X10.here hx rfl (hb hby at_89) rfl ?_
      refine XS.iconst X10.here hx rfl (hb hby at_91) ?_
      refine XS.icmpYes X10.here hx rfl (pc0 := 92) (pc' := 118) rfl (hb hby at_92) rfl (own_feq (a := (4 : Int32)) (b := (3 : Int32)) (by decide) (by decide) hc92_330).2 (by decide) (by decide) ?_
      refine XS.iconst X10.here hx rfl (hb hby at_118) ?_
      refine st331 _ ?_
      refine XS.dup X331.here hx rfl (hb hby at_121) rfl rfl ?_
      refine XS.iconst X331.here hx rfl (hb hby at_122) ?_
      refine XS.iload X331.here hx rfl (hb hby at_123) rfl ?_
      refine st338 _ ?_
      refine XS.dup X338.here hx rfl (hb hby at_126) rfl rfl ?_
      refine XS.iconst X338.here hx rfl (hb hby at_127) ?_
      refine XS.iload X338.here hx rfl (hb hby at_128) rfl ?_
      refine st344 _ ?_
      show Steps p.tables e below (T344.setTop (mkF m 131 #[.val (.int wl), .val (.int wa), .val (.int wb), .val (.int wc), .val (.int wd), .val (.int 4), .val (.int c0), .val (.int c1), .val (.int c2), .val (.int c3), .unset, .unset, .unset, .unset, .unset, .unset] [(.ref b331)])) _
      refine XS.dup X344.here hx rfl (hb hby at_131) rfl rfl ?_
      refine XS.iconst X344.here hx rfl (hb hby at_132) ?_
      refine XS.iload X344.here hx rfl (hb hby at_133) rfl ?_
      refine st350 _ ?_
      refine XS.dup X350.here hx rfl (hb hby at_136) rfl rfl ?_
      refine XS.iconst X350.here hx rfl (hb hby at_137) ?_
      refine XS.iload X350.here hx rfl (hb hby at_138) rfl ?_
      refine st356 _ ?_
      refine XS.astore X356.here hx rfl (hb hby at_141) rfl rfl (l' := #[.val (.int wl), .val (.int wa), .val (.int wb), .val (.int wc), .val (.int wd), .val (.int 4), .val (.int c0), .val (.int c1), .val (.int c2), .val (.int c3), .val (.ref b331), .unset, .unset, .unset, .unset, .unset]) rfl ?_
      refine st361 _ ?_
      refine XS.dup X361.here hx rfl (hb hby at_146) rfl rfl ?_
      refine XS.aload X361.here hx rfl (hb hby at_147) rfl rfl ?_
      exact kt
    have f370 := (V356.ext E361)
    have hn372 : nar .char c0 = c0 := own_narc c0 hc0.1 hc0.2
    have hn373 : nar .char c1 = c1 := own_narc c1 hc1.1 hc1.2
    have hn374 : nar .char c2 = c2 := own_narc c2 hc2.1 hc2.2
    have hn375 : nar .char c3 = c3 := own_narc c3 hc3.1 hc3.2
    have Vx371 : Arv Z h361 b331 k331 .char (4 : Int32) [(.int c0), (.int c1), (.int c2), (.int c3)] (.int 0) := by
      have q := f370
      rw [hn372, hn373, hn374, hn375] at q; exact q
    have f376 := (f362.ext E361)
    have os377 := (own_st_ext (own_st_wr (own_st_wr (own_st_wr (own_st_wr (own_st_ext Os E331) W338) W344) W350) W356) E361)
    obtain ⟨_, _, ⟨T378, L378, k378, n378⟩, -, X378, ⟨Lc378, hQ378, l378, y378, z378⟩, st378⟩ := X361.specialBack hx (y := yn31) rfl hown (mvT hZ (ow hw 9 rfl)) (mvT hZ (ow hw 10 rfl)) (mvT hZ (ow hw 11 rfl)) (by decide) (backOf (W := 1) (rm_mu4 l Z a0 hw [] b361 b331 vcs vf k331 c0 c1 c2 c3 h361 n0 Zs368 os377 A361 F361_coder F361_value g_b361 (Ne.symm ne_b331_b361) Vx371 hc0.1 hc1.1 hc2.1 hc3.1 hc0.2 hc1.2 hc2.2 hc3.2) hZ (ow hw 11 rfl) (ow hw 8 rfl) (by decide) (by decide)) (g := (mkF m 149 #[.val (.int wl), .val (.int wa), .val (.int wb), .val (.int wc), .val (.int wd), .val (.int 4), .val (.int c0), .val (.int c1), .val (.int c2), .val (.int c3), .val (.ref b331), .unset, .unset, .unset, .unset, .unset] [(.ref b331), (.ref b361), (.ref b361)])) rfl (by rw [hml]; rfl) (Steps.refl _) (a := b361) (argsL := [(.ref b331)]) (rest := [(.ref b361)]) (lenOf pd_21 rfl) rfl (by exact Nat.le_of_eq rfl) (hb hby at_149) (fun _ _ => ⟨rfl, e361, (by decide : 2 + 2 ≤ _), (by decide : 8 + 12 ≤ _)⟩)
    dsimp only [Pt.U, Pt.locs, Pt.cells, Pt.slots] at X378 l378 y378 z378 st378 hQ378
    rw [l378, y378, z378] at X378
    obtain ⟨rfl, N378q, K378, A378, ob, kb, gb, szb, Fv378, hO378⟩ := hQ378
    have N378 := Fr.app N356 N378q
    have sf379 := (Safe.keep K378 (sfS sf365 sf0) CR366.1 sf364)
    have sf380 := (Safe.keep K378 (sfS sf365 sf0) CR366.1 sf365)
    have CR381 := (CR366.trans (CHr.keep K378 (sfS sf365 sf0) CR366.1))
    have hk382 := Nat.le_trans hk367 K378.1
    have Zs383 : n0 ≤ T378.heap.size := Nat.le_trans Zs368 K378.1
    have ne_b331_ob : b331 ≠ ob := Nat.ne_of_lt (Nat.lt_of_lt_of_le Vx371.lt szb)
    have ne_b361_ob : b361 ≠ ob := Nat.ne_of_lt (Nat.lt_of_lt_of_le A361.lt szb)
    have sz_ob : h0.size ≤ ob := Nat.le_trans f376.1 szb
    have Sx378 : own_s4 Z T378.heap b361 ob kb c0 c1 c2 c3 := ⟨A378, Fv378, hO378⟩
    have pre384 : oP p e below (T378.setTop (mkF m 154 #[.val (.int wl), .val (.int wa), .val (.int wb), .val (.int wc), .val (.int wd), .val (.int 4), .val (.int c0), .val (.int c1), .val (.int c2), .val (.int c3), .val (.ref b331), .val (.ref b361), .unset, .unset, .unset, .unset] [])) (SS) := fun t kt => by
      refine pre369 _ ?_
      refine st378.trans ?_
      refine XS.astore X378.here hx rfl (hb hby at_152) rfl rfl (l' := #[.val (.int wl), .val (.int wa), .val (.int wb), .val (.int wc), .val (.int wd), .val (.int 4), .val (.int c0), .val (.int c1), .val (.int c2), .val (.int c3), .val (.ref b331), .val (.ref b361), .unset, .unset, .unset, .unset]) rfl ?_
      exact kt
    obtain ⟨vn, hvn, pre402⟩ : ∃ vn : Int32, ((vn.toInt = 1 ∧ (c0.toInt = 0 ∨ c1.toInt = 0 ∨ c2.toInt = 0 ∨ c3.toInt = 0)) ∨ (vn.toInt = 0 ∧ ¬ (c0.toInt = 0 ∨ c1.toInt = 0 ∨ c2.toInt = 0 ∨ c3.toInt = 0))) ∧ ∀ t, Steps p.tables e below (T378.setTop (mkF m 202 #[.val (.int wl), .val (.int wa), .val (.int wb), .val (.int wc), .val (.int wd), .val (.int 4), .val (.int c0), .val (.int c1), .val (.int c2), .val (.int c3), .val (.ref b331), .val (.ref b361), .unset, .unset, .unset, .unset] [(.int vn)])) t → Steps p.tables e below (SS) t := by
      have hc156_385 : (0 : Int) < (4 : Int) := by decide
      have pre387 : oP p e below (T378.setTop (mkF m 161 #[.val (.int wl), .val (.int wa), .val (.int wb), .val (.int wc), .val (.int wd), .val (.int 4), .val (.int c0), .val (.int c1), .val (.int c2), .val (.int c3), .val (.ref b331), .val (.ref b361), .unset, .unset, .unset, .unset] [(.int c0)])) (SS) := fun t kt => by
        refine pre384 _ ?_
        refine XS.iload X378.here hx rfl (hb hby at_154) rfl ?_
        refine XS.ifNo X378.here hx rfl (hb hby at_156) rfl (own_if (own_tlt (a := (0 : Int32)) (b := (4 : Int32)) (by decide) (by decide) hc156_385).2.2.2) ?_
        refine XS.iload X378.here hx rfl (hb hby at_159) rfl ?_
        exact kt
      by_cases hc161_386 : c0.toInt = (0 : Int)
      · have pre388 : oP p e below (T378.setTop (mkF m 202 #[.val (.int wl), .val (.int wa), .val (.int wb), .val (.int wc), .val (.int wd), .val (.int 4), .val (.int c0), .val (.int c1), .val (.int c2), .val (.int c3), .val (.ref b331), .val (.ref b361), .unset, .unset, .unset, .unset] [(.int 1)])) (SS) := fun t kt => by
          refine pre387 _ ?_
          refine XS.ifYes X378.here hx rfl (pc0 := 161) (pc' := 197) rfl (hb hby at_161) rfl (own_if (own_teq (a := c0) (b := (0 : Int32)) rfl (by decide) hc161_386).1) (by decide) (by decide) ?_
          refine XS.iconst X378.here hx rfl (hb hby at_197) ?_
          refine XS.goto X378.here hx rfl (pc0 := 198) (pc' := 202) rfl (hb hby at_198) (by decide) (by decide) ?_
          exact kt
        exact ⟨(1 : Int32), by have iv : ((1 : Int32)).toInt = (1 : Int) := (by decide); omega, pre388⟩
      · have hc167_389 : (1 : Int) < (4 : Int) := by decide
        have pre391 : oP p e below (T378.setTop (mkF m 172 #[.val (.int wl), .val (.int wa), .val (.int wb), .val (.int wc), .val (.int wd), .val (.int 4), .val (.int c0), .val (.int c1), .val (.int c2), .val (.int c3), .val (.ref b331), .val (.ref b361), .unset, .unset, .unset, .unset] [(.int c1)])) (SS) := fun t kt => by
          refine pre387 _ ?_
          refine XS.ifNo X378.here hx rfl (hb hby at_161) rfl (own_if (own_feq (a := c0) (b := (0 : Int32)) rfl (by decide) hc161_386).1) ?_
          refine XS.iload X378.here hx rfl (hb hby at_164) rfl ?_
          refine XS.iconst X378.here hx rfl (hb hby at_166) ?_
          show Steps p.tables e below (T378.setTop (mkF m 167 #[.val (.int wl), .val (.int wa), .val (.int wb), .val (.int wc), .val (.int wd), .val (.int 4), .val (.int c0), .val (.int c1), .val (.int c2), .val (.int c3), .val (.ref b331), .val (.ref b361), .unset, .unset, .unset, .unset] [(.int 1), (.int 4)])) _
          refine XS.icmpNo X378.here hx rfl (hb hby at_167) rfl (own_tlt (a := (1 : Int32)) (b := (4 : Int32)) (by decide) (by decide) hc167_389).2.2.2 ?_
          refine XS.iload X378.here hx rfl (hb hby at_170) rfl ?_
          exact kt
        by_cases hc172_390 : c1.toInt = (0 : Int)
        · have pre392 : oP p e below (T378.setTop (mkF m 202 #[.val (.int wl), .val (.int wa), .val (.int wb), .val (.int wc), .val (.int wd), .val (.int 4), .val (.int c0), .val (.int c1), .val (.int c2), .val (.int c3), .val (.ref b331), .val (.ref b361), .unset, .unset, .unset, .unset] [(.int 1)])) (SS) := fun t kt => by
            refine pre391 _ ?_
            refine XS.ifYes X378.here hx rfl (pc0 := 172) (pc' := 197) rfl (hb hby at_172) rfl (own_if (own_teq (a := c1) (b := (0 : Int32)) rfl (by decide) hc172_390).1) (by decide) (by decide) ?_
            refine XS.iconst X378.here hx rfl (hb hby at_197) ?_
            refine XS.goto X378.here hx rfl (pc0 := 198) (pc' := 202) rfl (hb hby at_198) (by decide) (by decide) ?_
            exact kt
          exact ⟨(1 : Int32), by have iv : ((1 : Int32)).toInt = (1 : Int) := (by decide); omega, pre392⟩
        · have hc178_393 : (2 : Int) < (4 : Int) := by decide
          have pre395 : oP p e below (T378.setTop (mkF m 183 #[.val (.int wl), .val (.int wa), .val (.int wb), .val (.int wc), .val (.int wd), .val (.int 4), .val (.int c0), .val (.int c1), .val (.int c2), .val (.int c3), .val (.ref b331), .val (.ref b361), .unset, .unset, .unset, .unset] [(.int c2)])) (SS) := fun t kt => by
            refine pre391 _ ?_
            refine XS.ifNo X378.here hx rfl (hb hby at_172) rfl (own_if (own_feq (a := c1) (b := (0 : Int32)) rfl (by decide) hc172_390).1) ?_
            refine XS.iload X378.here hx rfl (hb hby at_175) rfl ?_
            refine XS.iconst X378.here hx rfl (hb hby at_177) ?_
            refine XS.icmpNo X378.here hx rfl (hb hby at_178) rfl (own_tlt (a := (2 : Int32)) (b := (4 : Int32)) (by decide) (by decide) hc178_393).2.2.2 ?_
            refine XS.iload X378.here hx rfl (hb hby at_181) rfl ?_
            exact kt
          by_cases hc183_394 : c2.toInt = (0 : Int)
          · have pre396 : oP p e below (T378.setTop (mkF m 202 #[.val (.int wl), .val (.int wa), .val (.int wb), .val (.int wc), .val (.int wd), .val (.int 4), .val (.int c0), .val (.int c1), .val (.int c2), .val (.int c3), .val (.ref b331), .val (.ref b361), .unset, .unset, .unset, .unset] [(.int 1)])) (SS) := fun t kt => by
              refine pre395 _ ?_
              refine XS.ifYes X378.here hx rfl (pc0 := 183) (pc' := 197) rfl (hb hby at_183) rfl (own_if (own_teq (a := c2) (b := (0 : Int32)) rfl (by decide) hc183_394).1) (by decide) (by decide) ?_
              refine XS.iconst X378.here hx rfl (hb hby at_197) ?_
              refine XS.goto X378.here hx rfl (pc0 := 198) (pc' := 202) rfl (hb hby at_198) (by decide) (by decide) ?_
              exact kt
            exact ⟨(1 : Int32), by have iv : ((1 : Int32)).toInt = (1 : Int) := (by decide); omega, pre396⟩
          · have hc189_397 : (3 : Int) < (4 : Int) := by decide
            have pre399 : oP p e below (T378.setTop (mkF m 194 #[.val (.int wl), .val (.int wa), .val (.int wb), .val (.int wc), .val (.int wd), .val (.int 4), .val (.int c0), .val (.int c1), .val (.int c2), .val (.int c3), .val (.ref b331), .val (.ref b361), .unset, .unset, .unset, .unset] [(.int c3)])) (SS) := fun t kt => by
              refine pre395 _ ?_
              refine XS.ifNo X378.here hx rfl (hb hby at_183) rfl (own_if (own_feq (a := c2) (b := (0 : Int32)) rfl (by decide) hc183_394).1) ?_
              refine XS.iload X378.here hx rfl (hb hby at_186) rfl ?_
              refine XS.iconst X378.here hx rfl (hb hby at_188) ?_
              refine XS.icmpNo X378.here hx rfl (hb hby at_189) rfl (own_tlt (a := (3 : Int32)) (b := (4 : Int32)) (by decide) (by decide) hc189_397).2.2.2 ?_
              refine XS.iload X378.here hx rfl (hb hby at_192) rfl ?_
              exact kt
            by_cases hc194_398 : c3.toInt = (0 : Int)
            · have pre400 : oP p e below (T378.setTop (mkF m 202 #[.val (.int wl), .val (.int wa), .val (.int wb), .val (.int wc), .val (.int wd), .val (.int 4), .val (.int c0), .val (.int c1), .val (.int c2), .val (.int c3), .val (.ref b331), .val (.ref b361), .unset, .unset, .unset, .unset] [(.int 1)])) (SS) := fun t kt => by
                refine pre399 _ ?_
                refine XS.ifNo X378.here hx rfl (hb hby at_194) rfl (own_if (own_teq (a := c3) (b := (0 : Int32)) rfl (by decide) hc194_398).2) ?_
                refine XS.iconst X378.here hx rfl (hb hby at_197) ?_
                refine XS.goto X378.here hx rfl (pc0 := 198) (pc' := 202) rfl (hb hby at_198) (by decide) (by decide) ?_
                exact kt
              exact ⟨(1 : Int32), by have iv : ((1 : Int32)).toInt = (1 : Int) := (by decide); omega, pre400⟩
            · have pre401 : oP p e below (T378.setTop (mkF m 202 #[.val (.int wl), .val (.int wa), .val (.int wb), .val (.int wc), .val (.int wd), .val (.int 4), .val (.int c0), .val (.int c1), .val (.int c2), .val (.int c3), .val (.ref b331), .val (.ref b361), .unset, .unset, .unset, .unset] [(.int 0)])) (SS) := fun t kt => by
                refine pre399 _ ?_
                refine XS.ifYes X378.here hx rfl (pc0 := 194) (pc' := 201) rfl (hb hby at_194) rfl (own_if (own_feq (a := c3) (b := (0 : Int32)) rfl (by decide) hc194_398).2) (by decide) (by decide) ?_
                refine XS.iconst X378.here hx rfl (hb hby at_201) ?_
                exact kt
              exact ⟨(0 : Int32), by have iv : ((0 : Int32)).toInt = (0 : Int) := (by decide); omega, pre401⟩
    have pre403 : oP p e below (T378.setTop (mkF m 204 #[.val (.int wl), .val (.int wa), .val (.int wb), .val (.int wc), .val (.int wd), .val (.int 4), .val (.int c0), .val (.int c1), .val (.int c2), .val (.int c3), .val (.ref b331), .val (.ref b361), .val (.int vn), .unset, .unset, .unset] [])) (SS) := fun t kt => by
      refine pre402 _ ?_
      refine XS.istore X378.here hx rfl (hb hby at_202) rfl (l' := #[.val (.int wl), .val (.int wa), .val (.int wb), .val (.int wc), .val (.int wd), .val (.int 4), .val (.int c0), .val (.int c1), .val (.int c2), .val (.int c3), .val (.ref b331), .val (.ref b361), .val (.int vn), .unset, .unset, .unset]) rfl ?_
      exact kt
    obtain ⟨vdt, hvdt, pre406⟩ : ∃ vdt : Int32, ((vdt.toInt = 1 ∧ ((0 : Int) = 1)) ∨ (vdt.toInt = 0 ∧ ¬ ((0 : Int) = 1))) ∧ ∀ t, Steps p.tables e below (T378.setTop (mkF m 222 #[.val (.int wl), .val (.int wa), .val (.int wb), .val (.int wc), .val (.int wd), .val (.int 4), .val (.int c0), .val (.int c1), .val (.int c2), .val (.int c3), .val (.ref b331), .val (.ref b361), .val (.int vn), .unset, .unset, .unset] [(.int vdt)])) t → Steps p.tables e below (SS) t := by
      have hc207_404 : ¬ ((4 : Int) = (1 : Int)) := by decide
      have pre405 : oP p e below (T378.setTop (mkF m 222 #[.val (.int wl), .val (.int wa), .val (.int wb), .val (.int wc), .val (.int wd), .val (.int 4), .val (.int c0), .val (.int c1), .val (.int c2), .val (.int c3), .val (.ref b331), .val (.ref b361), .val (.int vn), .unset, .unset, .unset] [(.int 0)])) (SS) := fun t kt => by
        refine pre403 _ ?_
        refine XS.iload X378.here hx rfl (hb hby at_204) rfl ?_
        refine XS.iconst X378.here hx rfl (hb hby at_206) ?_
        refine XS.icmpYes X378.here hx rfl (pc0 := 207) (pc' := 221) rfl (hb hby at_207) rfl (own_feq (a := (4 : Int32)) (b := (1 : Int32)) (by decide) (by decide) hc207_404).2 (by decide) (by decide) ?_
        refine XS.iconst X378.here hx rfl (hb hby at_221) ?_
        exact kt
      exact ⟨(0 : Int32), by have iv : ((0 : Int32)).toInt = (0 : Int) := (by decide); omega, pre405⟩
    have pre407 : oP p e below (T378.setTop (mkF m 224 #[.val (.int wl), .val (.int wa), .val (.int wb), .val (.int wc), .val (.int wd), .val (.int 4), .val (.int c0), .val (.int c1), .val (.int c2), .val (.int c3), .val (.ref b331), .val (.ref b361), .val (.int vn), .val (.int vdt), .unset, .unset] [])) (SS) := fun t kt => by
      refine pre406 _ ?_
      refine XS.istore X378.here hx rfl (hb hby at_222) rfl (l' := #[.val (.int wl), .val (.int wa), .val (.int wb), .val (.int wc), .val (.int wd), .val (.int 4), .val (.int c0), .val (.int c1), .val (.int c2), .val (.int c3), .val (.ref b331), .val (.ref b361), .val (.int vn), .val (.int vdt), .unset, .unset]) rfl ?_
      exact kt
    obtain ⟨vdd, hvdd, pre410⟩ : ∃ vdd : Int32, ((vdd.toInt = 1 ∧ ((0 : Int) = 1)) ∨ (vdd.toInt = 0 ∧ ¬ ((0 : Int) = 1))) ∧ ∀ t, Steps p.tables e below (T378.setTop (mkF m 249 #[.val (.int wl), .val (.int wa), .val (.int wb), .val (.int wc), .val (.int wd), .val (.int 4), .val (.int c0), .val (.int c1), .val (.int c2), .val (.int c3), .val (.ref b331), .val (.ref b361), .val (.int vn), .val (.int vdt), .unset, .unset] [(.int vdd)])) t → Steps p.tables e below (SS) t := by
      have hc227_408 : ¬ ((4 : Int) = (2 : Int)) := by decide
      have pre409 : oP p e below (T378.setTop (mkF m 249 #[.val (.int wl), .val (.int wa), .val (.int wb), .val (.int wc), .val (.int wd), .val (.int 4), .val (.int c0), .val (.int c1), .val (.int c2), .val (.int c3), .val (.ref b331), .val (.ref b361), .val (.int vn), .val (.int vdt), .unset, .unset] [(.int 0)])) (SS) := fun t kt => by
        refine pre407 _ ?_
        refine XS.iload X378.here hx rfl (hb hby at_224) rfl ?_
        refine XS.iconst X378.here hx rfl (hb hby at_226) ?_
        refine XS.icmpYes X378.here hx rfl (pc0 := 227) (pc' := 248) rfl (hb hby at_227) rfl (own_feq (a := (4 : Int32)) (b := (2 : Int32)) (by decide) (by decide) hc227_408).2 (by decide) (by decide) ?_
        refine XS.iconst X378.here hx rfl (hb hby at_248) ?_
        exact kt
      exact ⟨(0 : Int32), by have iv : ((0 : Int32)).toInt = (0 : Int) := (by decide); omega, pre409⟩
    have pre411 : oP p e below (T378.setTop (mkF m 251 #[.val (.int wl), .val (.int wa), .val (.int wb), .val (.int wc), .val (.int wd), .val (.int 4), .val (.int c0), .val (.int c1), .val (.int c2), .val (.int c3), .val (.ref b331), .val (.ref b361), .val (.int vn), .val (.int vdt), .val (.int vdd), .unset] [])) (SS) := fun t kt => by
      refine pre410 _ ?_
      refine XS.istore X378.here hx rfl (hb hby at_249) rfl (l' := #[.val (.int wl), .val (.int wa), .val (.int wb), .val (.int wc), .val (.int wd), .val (.int 4), .val (.int c0), .val (.int c1), .val (.int c2), .val (.int c3), .val (.ref b331), .val (.ref b361), .val (.int vn), .val (.int vdt), .val (.int vdd), .unset]) rfl ?_
      exact kt
    obtain ⟨vex, hvex, pre423⟩ : ∃ vex : Int32, ((vex.toInt = 1 ∧ (¬ (c0.toInt = 0 ∨ c1.toInt = 0 ∨ c2.toInt = 0 ∨ c3.toInt = 0))) ∨ (vex.toInt = 0 ∧ ¬ (¬ (c0.toInt = 0 ∨ c1.toInt = 0 ∨ c2.toInt = 0 ∨ c3.toInt = 0)))) ∧ ∀ t, Steps p.tables e below (T378.setTop (mkF m 276 #[.val (.int wl), .val (.int wa), .val (.int wb), .val (.int wc), .val (.int wd), .val (.int 4), .val (.int c0), .val (.int c1), .val (.int c2), .val (.int c3), .val (.ref b331), .val (.ref b361), .val (.int vn), .val (.int vdt), .val (.int vdd), .unset] [(.int vex)])) t → Steps p.tables e below (SS) t := by
      have hc253_412 : (0 : Int) < (4 : Int) := by decide
      have pre414 : oP p e below (T378.setTop (mkF m 258 #[.val (.int wl), .val (.int wa), .val (.int wb), .val (.int wc), .val (.int wd), .val (.int 4), .val (.int c0), .val (.int c1), .val (.int c2), .val (.int c3), .val (.ref b331), .val (.ref b361), .val (.int vn), .val (.int vdt), .val (.int vdd), .unset] [(.int vdt)])) (SS) := fun t kt => by
        refine pre411 _ ?_
        refine XS.iload X378.here hx rfl (hb hby at_251) rfl ?_
        refine XS.ifNo X378.here hx rfl (hb hby at_253) rfl (own_if (own_tlt (a := (0 : Int32)) (b := (4 : Int32)) (by decide) (by decide) hc253_412).2.2.2) ?_
        refine XS.iload X378.here hx rfl (hb hby at_256) rfl ?_
        exact kt
      by_cases hc258_413 : vdt.toInt = (0 : Int)
      · have pre416 : oP p e below (T378.setTop (mkF m 263 #[.val (.int wl), .val (.int wa), .val (.int wb), .val (.int wc), .val (.int wd), .val (.int 4), .val (.int c0), .val (.int c1), .val (.int c2), .val (.int c3), .val (.ref b331), .val (.ref b361), .val (.int vn), .val (.int vdt), .val (.int vdd), .unset] [(.int vdd)])) (SS) := fun t kt => by
          refine pre414 _ ?_
          refine XS.ifNo X378.here hx rfl (hb hby at_258) rfl (own_if (own_teq (a := vdt) (b := (0 : Int32)) rfl (by decide) hc258_413).2) ?_
          refine XS.iload X378.here hx rfl (hb hby at_261) rfl ?_
          exact kt
        by_cases hc263_415 : vdd.toInt = (0 : Int)
        · have pre418 : oP p e below (T378.setTop (mkF m 268 #[.val (.int wl), .val (.int wa), .val (.int wb), .val (.int wc), .val (.int wd), .val (.int 4), .val (.int c0), .val (.int c1), .val (.int c2), .val (.int c3), .val (.ref b331), .val (.ref b361), .val (.int vn), .val (.int vdt), .val (.int vdd), .unset] [(.int vn)])) (SS) := fun t kt => by
            refine pre416 _ ?_
            refine XS.ifNo X378.here hx rfl (hb hby at_263) rfl (own_if (own_teq (a := vdd) (b := (0 : Int32)) rfl (by decide) hc263_415).2) ?_
            refine XS.iload X378.here hx rfl (hb hby at_266) rfl ?_
            exact kt
          by_cases hc268_417 : vn.toInt = (0 : Int)
          · have pre419 : oP p e below (T378.setTop (mkF m 276 #[.val (.int wl), .val (.int wa), .val (.int wb), .val (.int wc), .val (.int wd), .val (.int 4), .val (.int c0), .val (.int c1), .val (.int c2), .val (.int c3), .val (.ref b331), .val (.ref b361), .val (.int vn), .val (.int vdt), .val (.int vdd), .unset] [(.int 1)])) (SS) := fun t kt => by
              refine pre418 _ ?_
              refine XS.ifNo X378.here hx rfl (hb hby at_268) rfl (own_if (own_teq (a := vn) (b := (0 : Int32)) rfl (by decide) hc268_417).2) ?_
              refine XS.iconst X378.here hx rfl (hb hby at_271) ?_
              refine XS.goto X378.here hx rfl (pc0 := 272) (pc' := 276) rfl (hb hby at_272) (by decide) (by decide) ?_
              exact kt
            exact ⟨(1 : Int32), by have iv : ((1 : Int32)).toInt = (1 : Int) := (by decide); omega, pre419⟩
          · have pre420 : oP p e below (T378.setTop (mkF m 276 #[.val (.int wl), .val (.int wa), .val (.int wb), .val (.int wc), .val (.int wd), .val (.int 4), .val (.int c0), .val (.int c1), .val (.int c2), .val (.int c3), .val (.ref b331), .val (.ref b361), .val (.int vn), .val (.int vdt), .val (.int vdd), .unset] [(.int 0)])) (SS) := fun t kt => by
              refine pre418 _ ?_
              refine XS.ifYes X378.here hx rfl (pc0 := 268) (pc' := 275) rfl (hb hby at_268) rfl (own_if (own_feq (a := vn) (b := (0 : Int32)) rfl (by decide) hc268_417).2) (by decide) (by decide) ?_
              refine XS.iconst X378.here hx rfl (hb hby at_275) ?_
              exact kt
            exact ⟨(0 : Int32), by have iv : ((0 : Int32)).toInt = (0 : Int) := (by decide); omega, pre420⟩
        · have pre421 : oP p e below (T378.setTop (mkF m 276 #[.val (.int wl), .val (.int wa), .val (.int wb), .val (.int wc), .val (.int wd), .val (.int 4), .val (.int c0), .val (.int c1), .val (.int c2), .val (.int c3), .val (.ref b331), .val (.ref b361), .val (.int vn), .val (.int vdt), .val (.int vdd), .unset] [(.int 0)])) (SS) := fun t kt => by
            refine pre416 _ ?_
            refine XS.ifYes X378.here hx rfl (pc0 := 263) (pc' := 275) rfl (hb hby at_263) rfl (own_if (own_feq (a := vdd) (b := (0 : Int32)) rfl (by decide) hc263_415).2) (by decide) (by decide) ?_
            refine XS.iconst X378.here hx rfl (hb hby at_275) ?_
            exact kt
          exact ⟨(0 : Int32), by have iv : ((0 : Int32)).toInt = (0 : Int) := (by decide); omega, pre421⟩
      · have pre422 : oP p e below (T378.setTop (mkF m 276 #[.val (.int wl), .val (.int wa), .val (.int wb), .val (.int wc), .val (.int wd), .val (.int 4), .val (.int c0), .val (.int c1), .val (.int c2), .val (.int c3), .val (.ref b331), .val (.ref b361), .val (.int vn), .val (.int vdt), .val (.int vdd), .unset] [(.int 0)])) (SS) := fun t kt => by
          refine pre414 _ ?_
          refine XS.ifYes X378.here hx rfl (pc0 := 258) (pc' := 275) rfl (hb hby at_258) rfl (own_if (own_feq (a := vdt) (b := (0 : Int32)) rfl (by decide) hc258_413).2) (by decide) (by decide) ?_
          refine XS.iconst X378.here hx rfl (hb hby at_275) ?_
          exact kt
        exact ⟨(0 : Int32), by have iv : ((0 : Int32)).toInt = (0 : Int) := (by decide); omega, pre422⟩
    have pre424 : oP p e below (T378.setTop (mkF m 280 #[.val (.int wl), .val (.int wa), .val (.int wb), .val (.int wc), .val (.int wd), .val (.int 4), .val (.int c0), .val (.int c1), .val (.int c2), .val (.int c3), .val (.ref b331), .val (.ref b361), .val (.int vn), .val (.int vdt), .val (.int vdd), .val (.int vex)] [(.ref b361)])) (SS) := fun t kt => by
      refine pre423 _ ?_
      refine XS.istore X378.here hx rfl (hb hby at_276) rfl (l' := #[.val (.int wl), .val (.int wa), .val (.int wb), .val (.int wc), .val (.int wd), .val (.int 4), .val (.int c0), .val (.int c1), .val (.int c2), .val (.int c3), .val (.ref b331), .val (.ref b361), .val (.int vn), .val (.int vdt), .val (.int vdd), .val (.int vex)]) rfl ?_
      refine XS.aload X378.here hx rfl (hb hby at_278) rfl rfl ?_
      exact kt
    have os425 := (own_st_keep os377 K378 (nsS A361.nostat ns0))
    have f427 := (Vx371.keep K378 (ninS ne_b331_b361 nin0))
    obtain ⟨_, _, ⟨T426, L426, k426, n426⟩, -, Xp426, hSp426, hgp426, ⟨Lc426, hQ426, l426, y426, z426, CRn426⟩, st426⟩ := callSS X378 hx (y := yn22) hown (mvT hZ (ow hw 27 rfl)) (mvT hZ (ow hw 28 rfl)) (mvT hZ (ow hw 29 rfl)) (mvT hZ (ow hw 30 rfl)) (by decide) (backOfSH (W := 0) (rm_nm4 l Z a0 hw [] b361 vcs vf ob kb c0 c1 c2 c3 T378.heap n0 Zs383 os425 Sx378 hc0.1 hc1.1 hc2.1 hc3.1 hc0.2 hc1.2 hc2.2 hc3.2) hZ (ow hw 30 rfl) (ow hw 29 rfl) (by decide) (by decide) hEL CR381.1) (g := (mkF m 280 #[.val (.int wl), .val (.int wa), .val (.int wb), .val (.int wc), .val (.int wd), .val (.int 4), .val (.int c0), .val (.int c1), .val (.int c2), .val (.int c3), .val (.ref b331), .val (.ref b361), .val (.int vn), .val (.int vdt), .val (.int vdd), .val (.int vex)] [(.ref b361)])) rfl (by rw [hml]; rfl) (argsL := [(.ref b361)]) (rest := []) (lenOf pd_22 rfl) rfl (by exact Nat.le_of_eq rfl) (hb hby at_280) (fun _ _ => ⟨rfl, rfl, (by decide : 4 + 4 ≤ _), (by decide : 20 + 20 ≤ _)⟩)
    dsimp only [Pt.U, Pt.locs, Pt.cells, Pt.slots] at Xp426 hSp426 hgp426 l426 y426 z426 st426 hQ426 CRn426
    rw [l426, y426, z426] at Xp426
    obtain ⟨X426, hS426, hZ, hown⟩ := rebS hS0 (n1 := T378.heap.size) hk382 Xp426 hSp426 hgp426 hZ hown
    have sf428 := CRn426.safe f427.lt sf379
    have sf429 := CRn426.safe A378.lt sf380
    have CR430 := CR381.trans CRn426
    obtain ⟨zu, rfl, hzu, N426q, K426⟩ := hQ426
    have N426 := Fr.app N378 N426q
    have Zs431 : n0 ≤ T426.heap.size := Nat.le_trans Zs383 K426.1
    have hc285_432 : zu.toInt = vex.toInt := by omega
    subst hSS
    obtain ⟨fs, hr, hrun, hended, hREW⟩ := X426.leaveW hS426 (Nat.le_refl T426.heap.size) (v := some (.int 1)) (fun h => by rw [Bd.returns] at h; cases h)
    refine ⟨_, _, pre424 _ ?_, hrun, hended, _, _, rfl, ?_, ?_, ⟨hREW.1, hREW.2.1, hREW.2.2.1, hREW.2.2.2.mono (by decide) (by decide)⟩⟩
    · refine st426.trans ?_
      show Steps p.tables e below (T426.setTop (mkF m 283 #[.val (.int wl), .val (.int wa), .val (.int wb), .val (.int wc), .val (.int wd), .val (.int 4), .val (.int c0), .val (.int c1), .val (.int c2), .val (.int c3), .val (.ref b331), .val (.ref b361), .val (.int vn), .val (.int vdt), .val (.int vdd), .val (.int vex)] [(.int zu)])) _
      refine XS.iload X426.here hx rfl (hb hby at_283) rfl ?_
      refine XS.icmpNo X426.here hx rfl (hb hby at_285) rfl (own_teq (a := zu) (b := vex) rfl rfl hc285_432).2 ?_
      refine XS.iconst X426.here hx rfl (hb hby at_288) ?_
      refine XS.goto X426.here hx rfl (pc0 := 289) (pc' := 293) rfl (hb hby at_289) (by decide) (by decide) ?_
      exact retN X426 hx (t := .boolean) Bd.returns (by simp) (hb hby at_293) hr
    · show Q0 Z _ _ _ _ _ _ _ h0 n0 _ T426.heap _
      exact ⟨rfl, N426⟩
    · show CHr Z own_EL s.vm s.heap T426.vm T426.heap
      rw [hh]
      exact CR430.trans (CHv.at X426 hZ hEL CR430.1)
theorem own_st0 {s : State} {a0 : Array Value} (hsets : ∀ d ∈ jdkStatics_1, d.before a0 s = true) : ∃ (vcs : Int32) (vf : Value), own_st s s.heap vcs vf := by
  obtain ⟨vcs, ec⟩ := is_v (Cond.before_iff.mp (hsets _ (List.mem_of_getElem? (i := 1) rfl)))
  obtain ⟨vf, ef, hf⟩ := isR_v (Cond.before_iff.mp (hsets _ (List.mem_of_getElem? (i := 8) rfl)))
  have nz : ¬ vcs.toInt = 0 := fun q => by
    have h1 := not_v (Cond.before_iff.mp (hsets _ (List.mem_of_getElem? (i := 2) rfl)))
    have h2 : vcs = 0 := Int32.toInt_inj.mp (by rw [q]; decide)
    subst h2
    have h3 := eq_i ec (Term.int_eval (0 : Int32)) rfl
    rw [h3] at h1; cases h1
  exact ⟨vcs, vf, Sta.start ec (Or.inl (hsets _ (List.mem_of_getElem? (i := 0) rfl))), nz, Sta.start ef (Or.inl (hsets _ (List.mem_of_getElem? (i := 7) rfl))), hf, Sta.start (Cond.eq_int (hsets _ (List.mem_of_getElem? (i := 12) rfl)) rfl) (Or.inl (hsets _ (List.mem_of_getElem? (i := 11) rfl))), Sta.start (Cond.eq_int (hsets _ (List.mem_of_getElem? (i := 15) rfl)) rfl) (Or.inl (hsets _ (List.mem_of_getElem? (i := 14) rfl))), Sta.start (Cond.eq_int (hsets _ (List.mem_of_getElem? (i := 18) rfl)) rfl) (Or.inl (hsets _ (List.mem_of_getElem? (i := 17) rfl)))⟩
theorem comes_1 {Post : Tables → Env → Array Value → State → Outcome → State → Prop} (hpost : ∀ tb e args s v u, (limb_1_1.after args s (.returned v) u = true ∧ limb_1_2.after args s (.returned v) u = true ∧ True) → ReturnedEndW s (.returned v) u (Jvm.fieldLocs frame_1_writes args s ++ Jvm.arrayLocs frame_1_arrays args s ++ Jvm.staticLocs frame_1_statics s) 24 3200 → Post tb e args s (.returned v) u) :
    ArmFor flags0 classFile x code maxLocals ret World_1 tables_1 room_1 Calls_1 rest_1 Pre_1 Post := by
  intro l hfl _ _ p e ha hc hk s m args below hf hA hF happ hP
  obtain ⟨hcalls, hrest, hpre⟩ := hP
  obtain ⟨-, -, -, hnamed, -, -, -, hat⟩ := (Spec.applies_iff hf).mp happ
  obtain ⟨hg, hn⟩ := and_e (Cond.before_iff.mp (show (Jvm.Cond.and given_1 narrow_1).before args s = true from hpre))
  obtain ⟨g0, gr0⟩ := and_e hg
  obtain ⟨ga0, gr1⟩ := and_e gr0
  obtain ⟨ga1, gr2⟩ := and_e gr1
  obtain ⟨ga2, gr3⟩ := and_e gr2
  obtain ⟨ga3, gr4⟩ := and_e gr3
  obtain ⟨w0, w1, w2, w3, w4, rfl⟩ : ∃ w0 w1 w2 w3 w4 : Value, args = #[w0, w1, w2, w3, w4] := by
    have hs : args.size = 5 := by simpa [Cond.value, given_1] using g0
    obtain ⟨L⟩ := args
    match L, hs with
    | [w0, w1, w2, w3, w4], _ => exact ⟨w0, w1, w2, w3, w4, rfl⟩
  have hw := fun d (hd : d ∈ tables_1) => atoms_spec (ws := Jvm.Cond.code x code maxLocals ret :: tables_1) hat d (List.mem_cons_of_mem _ hd)
  have hfit : Fit s := fun {y c} hc i hi => by
    obtain ⟨ha, rfl⟩ := Array.getElem?_eq_some_iff.mp hc
    have q := List.all_eq_true.mp ((Array.all_eq_true_iff_forall_mem.mp hF) _ (Array.getElem_mem ha)) i (List.mem_range.mpr hi)
    simpa [Array.getElem?_eq_getElem hi] using q
  obtain ⟨hsets, hown0⟩ := atoms_of _ (rest_1_c_eq ▸ (show rest_1_c.before _ s = true from hrest))
  have hr0 := Cond.before_iff.mp hown0
  obtain ⟨i0, ei0⟩ := is_v ga0
  obtain rfl : w0 = (.int i0) := Option.some.inj ei0
  obtain ⟨i1, ei1⟩ := is_v ga1
  obtain rfl : w1 = (.int i1) := Option.some.inj ei1
  obtain ⟨i2, ei2⟩ := is_v ga2
  obtain rfl : w2 = (.int i2) := Option.some.inj ei2
  obtain ⟨i3, ei3⟩ := is_v ga3
  obtain rfl : w3 = (.int i3) := Option.some.inj ei3
  obtain ⟨i4, ei4⟩ := is_v gr4
  obtain rfl : w4 = (.int i4) := Option.some.inj ei4
  obtain ⟨vcs, vf, Os⟩ := own_st0 hsets
  have hCH : CHv s own_EL s.vm s.heap := CHv.start (own_EW hw) (fun q hq => hcalls.1 q hq) (hsets _ (List.mem_of_getElem? (i := 2) rfl)) (own_wS hw _ (by simp [Bundle.stringAtoms])) (own_wS hw _ (by simp [Bundle.stringAtoms, Bundle.sN]))
  obtain ⟨n, o, h1, h2, h3, v0, L, rfl, hQ, -, hq⟩ := rm0 l s _ hw tables_1 i0 i1 i2 i3 i4 vcs vf s.heap s.heap.size (Nat.le_refl _) Os  p e ha hc hk s m _ below hf ((Spec.applies_iff_loose hf).mp happ).1 ⟨rfl, State.Warmed39.refl s, rfl, hCH⟩ trivial
  obtain ⟨rfl, N⟩ : v0 = some (.int (1 : Int32)) ∧ Fr s.heap.size L := hQ
  refine ⟨n, _, h1, h2, h3, hpost _ _ _ _ _ _ ⟨Cond.after_iff.mpr rfl, Cond.after_iff.mpr (eq_i res_at (Term.int_eval (1)) rfl), trivial⟩ ⟨hq.1, hq.2.1, hq.2.2.1, (hq.2.2.2.sift fun y hy => Or.inr (N y hy)).mono (by decide) (by decide)⟩⟩
theorem main_1_1 : Claimed_1_1 := comes_1 fun _ _ _ _ _ _ h hF => ⟨h.1, hF⟩
theorem main_1_2 : Claimed_1_2 := comes_1 fun _ _ _ _ _ _ h hF => ⟨h.2.1, hF⟩
end Jvm.Pilot.@@N@@
namespace Jvm.Pilot.@@N@@
open Jvm Jvm.ClassFile Sem Op Lib Jvm.Free Jvm.Stand Jvm.Pilot.@@N@@.Jvm.D
/-! MADE BY PROGRAM (witnessworld.py) out of the Statement's table words and the real class files: 22 classes; the members and pool entries that the words name. The judged class is class 1, her method 2. -/
namespace start1
open Jvm.ClassFile
def u (s : String) : CpInfo := .utf8 (stringToUtf16 s)
/-- a pool by its gaps: so many unusable entries, then the entry; so many at the end -/
def gap : Nat → List CpInfo → List CpInfo
  | 0, r => r
  | n + 1, r => .unusable :: gap n r
def poolList (es : List (Nat × CpInfo)) (last : Nat) : List CpInfo := es.foldr (fun e r => gap e.1 (e.2 :: r)) (gap last [])
def pool (es : List (Nat × CpInfo)) (last : Nat) : Array CpInfo := ⟨poolList es last⟩
def fileOf (pool : Array CpInfo) (this : Nat) (attrs : Array Attribute := #[]) (ms : Array MethodInfo := #[]) (fl : Nat := 33) (sup : Nat := 0) (ifs : Array Nat := #[]) (fds : Array FieldInfo := #[]) : ClassFile where
  minorVersion := 0
  majorVersion := 65
  constantPool := pool
  accessFlags := fl
  thisClass := this
  superClass := sup
  interfaces := ifs
  fields := fds
  methods := ms
  attributes := attrs
def plain (name : String) (sup : Option ClassId) : Class where
  name := name
  kind := .ordinary
  loader := none
  accessFlags := 33
  super := sup
  interfaces := #[]
  cf := none
  fields := #[]
  methods := #[]
  instanceTypes := #[]
  staticTypes := #[]
  resolved := #[]
  callSites := []
  init := .initialized
  statics := none
  mirror := none

def pool0 : Array CpInfo := pool [(5, u "<init>"), (0, u "()V"), (1, .class_ 10), (1, u "java/lang/Object")] 113

def k0c0 : Code := { maxStack := 0, maxLocals := 1, code := object_method_1_code, exceptionTable := #[], attributes := #[] }
def k0m0 : Method := { name := "<init>", desc := "()V", sig := { parameters := [], returnType := none }, accessFlags := 1, code := some k0c0 }
/-- java/lang/Object -/
def k0 : Class := { plain "java/lang/Object" none with
  accessFlags := 33
  interfaces := #[]
  cf := some (fileOf pool0 8 #[] #[{ accessFlags := 1, nameIndex := 5, descriptorIndex := 6, attributes := #[] }] 33 0 #[] #[])
  fields := #[]
  methods := #[k0m0]
  instanceTypes := #[]
  staticTypes := #[]
  resolved := Array.replicate 124 none
  statics := none }

def pool1 : Array CpInfo := pool [(2, .class_ 4), (1, u "java/lang/Object"), (0, u "<init>"), (0, u "()V"), (0, .integer 2147483647), (0, .methodref 9 10), (0, .class_ 11), (0, .nameAndType 12 13), (0, u "com/example/attestbridge/attestbridge/sync/AclPolicyIsNamePinLaw"), (0, u "pick"), (0, u "(I)C"), (0, .class_ 15), (0, u "java/lang/String"), (0, .methodref 14 17), (0, .nameAndType 5 18), (0, u "([C)V"), (0, .methodref 20 21), (0, .class_ 22), (0, .nameAndType 23 24), (0, u "com/example/attestbridge/attestbridge/sync/AclPolicy"), (0, u "isName"), (0, u "(Ljava/lang/String;)Z"), (3, u "law"), (0, u "(IIIII)Z")] 4

def k1m0 : Method := { name := "<init>", desc := "()V", sig := { parameters := [], returnType := none }, accessFlags := 2, code := none }
def k1c1 : Code := { maxStack := 2, maxLocals := 2, code := method_2_code, exceptionTable := #[], attributes := #[] }
def k1m1 : Method := { name := "pick", desc := "(I)C", sig := { parameters := [.int], returnType := some .char }, accessFlags := 10, code := some k1c1 }
def k1c2 : Code := { maxStack := 4, maxLocals := 16, code := code, exceptionTable := #[], attributes := #[] }
def k1m2 : Method := { name := "law", desc := "(IIIII)Z", sig := { parameters := [.int, .int, .int, .int, .int], returnType := some .boolean }, accessFlags := 9, code := some k1c2 }
/-- com/example/attestbridge/attestbridge/sync/AclPolicyIsNamePinLaw -/
def k1 : Class := { plain "com/example/attestbridge/attestbridge/sync/AclPolicyIsNamePinLaw" (some 0) with
  accessFlags := 49
  interfaces := #[]
  cf := some (fileOf pool1 9 #[] #[{ accessFlags := 2, nameIndex := 5, descriptorIndex := 6, attributes := #[] }, { accessFlags := 10, nameIndex := 12, descriptorIndex := 13, attributes := #[] }, { accessFlags := 9, nameIndex := 28, descriptorIndex := 29, attributes := #[] }] 49 2 #[] #[])
  fields := #[]
  methods := #[k1m0, k1m1, k1m2]
  instanceTypes := #[]
  staticTypes := #[]
  resolved := Array.replicate 34 none
  statics := none }

def pool2 : Array CpInfo := pool [(1, .class_ 2), (0, u "java/io/Serializable"), (0, .class_ 4), (0, u "java/lang/Object")] 2

/-- java/io/Serializable -/
def k2 : Class := { plain "java/io/Serializable" (some 0) with
  accessFlags := 1537
  interfaces := #[]
  cf := some (fileOf pool2 1 #[] #[] 1537 3 #[] #[])
  fields := #[]
  methods := #[]
  instanceTypes := #[]
  staticTypes := #[]
  resolved := Array.replicate 7 none
  statics := none }

def pool3 : Array CpInfo := pool [(1, .class_ 2), (0, u "java/lang/Comparable"), (0, .class_ 4), (0, u "java/lang/Object")] 7

/-- java/lang/Comparable -/
def k3 : Class := { plain "java/lang/Comparable" (some 0) with
  accessFlags := 1537
  interfaces := #[]
  cf := some (fileOf pool3 1 #[] #[] 1537 3 #[] #[])
  fields := #[]
  methods := #[]
  instanceTypes := #[]
  staticTypes := #[]
  resolved := Array.replicate 12 none
  statics := none }

def pool4 : Array CpInfo := pool [(2, .class_ 4), (1, u "java/lang/CharSequence"), (42, .class_ 48), (0, u "java/lang/CharSequence$1CodePointIterator"), (10, .class_ 60), (0, u "java/lang/CharSequence$1CharIterator"), (5, .class_ 67), (0, u "java/lang/Object")] 63

/-- java/lang/CharSequence -/
def k4 : Class := { plain "java/lang/CharSequence" (some 0) with
  accessFlags := 1537
  interfaces := #[]
  cf := some (fileOf pool4 2 #[.nestMembers #[47, 59]] #[] 1537 66 #[] #[])
  fields := #[]
  methods := #[]
  instanceTypes := #[]
  staticTypes := #[]
  resolved := Array.replicate 131 none
  statics := none }

def pool5 : Array CpInfo := pool [(1, .class_ 2), (0, u "java/lang/constant/Constable"), (0, .class_ 4), (0, u "java/lang/Object")] 6

/-- java/lang/constant/Constable -/
def k5 : Class := { plain "java/lang/constant/Constable" (some 0) with
  accessFlags := 1537
  interfaces := #[]
  cf := some (fileOf pool5 1 #[] #[] 1537 3 #[] #[])
  fields := #[]
  methods := #[]
  instanceTypes := #[]
  staticTypes := #[]
  resolved := Array.replicate 11 none
  statics := none }

def pool6 : Array CpInfo := pool [(1, .class_ 2), (0, u "java/lang/constant/ConstantDesc"), (0, .class_ 4), (0, u "java/lang/Object")] 32

/-- java/lang/constant/ConstantDesc -/
def k6 : Class := { plain "java/lang/constant/ConstantDesc" (some 0) with
  accessFlags := 1537
  interfaces := #[]
  cf := some (fileOf pool6 1 #[] #[] 1537 3 #[] #[])
  fields := #[]
  methods := #[]
  instanceTypes := #[]
  staticTypes := #[]
  resolved := Array.replicate 37 none
  statics := none }

def pool7 : Array CpInfo := pool [(1, .methodref 2 3), (0, .class_ 4), (0, .nameAndType 5 6), (0, u "java/lang/Object"), (0, u "<init>"), (0, u "()V"), (0, .string 8), (0, u ""), (0, .fieldref 10 11), (0, .class_ 12), (0, .nameAndType 13 14), (0, u "java/lang/String"), (0, u "value"), (0, u "[B"), (0, .fieldref 10 16), (0, .nameAndType 17 18), (0, u "coder"), (0, u "B"), (2, u "hash"), (0, u "I"), (2, u "hashIsZero"), (0, u "Z"), (0, .methodref 10 28), (0, .nameAndType 5 29), (0, u "([CIILjava/lang/Void;)V"), (8, .fieldref 10 39), (0, .nameAndType 40 26), (0, u "COMPACT_STRINGS"), (1, .class_ 44), (1, u "java/lang/StringUTF16"), (0, u "compress"), (1, .methodref 42 48), (0, .nameAndType 49 50), (0, u "coderFromArrayLen"), (0, u "([BI)B"), (56, .class_ 109), (1, u "java/lang/StringLatin1"), (32, u "()Z"), (34, .methodref 42 178), (0, .nameAndType 45 179), (0, u "([CII)[B"), (154, u "()I"), (0, .methodref 10 336), (0, .nameAndType 17 337), (0, u "()B"), (154, .methodref 10 493), (0, .nameAndType 494 142), (0, u "isLatin1"), (10, .methodref 10 506), (0, .nameAndType 507 334), (0, u "length"), (5, u "checkFromToIndex"), (9, u "checkBoundsBeginEnd"), (0, u "(III)V"), (16, .methodref 107 542), (0, .nameAndType 543 544), (0, u "equals"), (0, u "([B[B)Z"), (28, u "(Ljava/lang/Object;)Z"), (1, .class_ 576), (0, u "java/lang/CharSequence"), (22, u "CASE_INSENSITIVE_ORDER"), (0, u "Ljava/util/Comparator;"), (32, .methodref 10 634), (0, .nameAndType 635 636), (0, u "indexOf"), (0, u "(II)I"), (0, .methodref 107 638), (0, .nameAndType 635 639), (0, u "([BIII)I"), (0, .methodref 42 638), (51, u "isEmpty"), (72, u "(I)I"), (244, u "([C)V"), (42, .fieldref 1054 1055), (0, .class_ 1056), (0, .nameAndType 1057 1058), (0, u "jdk/internal/util/Preconditions"), (0, u "SIOOBE_FORMATTER"), (0, u "Ljava/util/function/BiFunction;"), (3, .methodref 1054 1063), (0, .nameAndType 513 1064), (0, u "(IIILjava/util/function/BiFunction;)I"), (36, u "serialPersistentFields"), (0, u "[Ljava/io/ObjectStreamField;"), (0, .class_ 1104), (0, u "java/lang/String$CaseInsensitiveComparator"), (1, .class_ 1107), (0, u "java/io/Serializable"), (0, .class_ 1109), (0, u "java/lang/Comparable"), (0, .class_ 1111), (0, u "java/lang/constant/Constable"), (0, .class_ 1113), (0, u "java/lang/constant/ConstantDesc"), (2, u "serialVersionUID"), (0, u "J"), (3, u "REPL"), (0, u "C"), (2, u "LATIN1"), (1, u "UTF16")] 323

def k7m0 : Method := { name := "<init>", desc := "()V", sig := { parameters := [], returnType := none }, accessFlags := 1, code := none }
def k7c1 : Code := { maxStack := 5, maxLocals := 2, code := jdk_42_method_3_code, exceptionTable := #[], attributes := #[] }
def k7m1 : Method := { name := "<init>", desc := "([C)V", sig := { parameters := [(.array .char)], returnType := none }, accessFlags := 1, code := some k7c1 }
def k7c2 : Code := { maxStack := 2, maxLocals := 1, code := jdk_42_method_54_code, exceptionTable := #[], attributes := #[] }
def k7m2 : Method := { name := "length", desc := "()I", sig := { parameters := [], returnType := some .int }, accessFlags := 1, code := some k7c2 }
def k7c3 : Code := { maxStack := 1, maxLocals := 1, code := jdk_42_method_55_code, exceptionTable := #[], attributes := #[] }
def k7m3 : Method := { name := "isEmpty", desc := "()Z", sig := { parameters := [], returnType := some .boolean }, accessFlags := 1, code := some k7c3 }
def k7c4 : Code := { maxStack := 2, maxLocals := 3, code := jdk_42_method_66_code, exceptionTable := #[], attributes := #[] }
def k7m4 : Method := { name := "equals", desc := "(Ljava/lang/Object;)Z", sig := { parameters := [(.object "java/lang/Object")], returnType := some .boolean }, accessFlags := 1, code := some k7c4 }
def k7c5 : Code := { maxStack := 3, maxLocals := 2, code := jdk_42_method_79_code, exceptionTable := #[], attributes := #[] }
def k7m5 : Method := { name := "indexOf", desc := "(I)I", sig := { parameters := [.int], returnType := some .int }, accessFlags := 1, code := some k7c5 }
def k7c6 : Code := { maxStack := 4, maxLocals := 3, code := jdk_42_method_80_code, exceptionTable := #[], attributes := #[] }
def k7m6 : Method := { name := "indexOf", desc := "(II)I", sig := { parameters := [.int, .int], returnType := some .int }, accessFlags := 1, code := some k7c6 }
def k7c7 : Code := { maxStack := 4, maxLocals := 6, code := jdk_42_method_149_code, exceptionTable := #[], attributes := #[] }
def k7m7 : Method := { name := "<init>", desc := "([CIILjava/lang/Void;)V", sig := { parameters := [(.array .char), .int, .int, (.object "java/lang/Void")], returnType := none }, accessFlags := 2, code := some k7c7 }
def k7c8 : Code := { maxStack := 1, maxLocals := 1, code := jdk_42_method_152_code, exceptionTable := #[], attributes := #[] }
def k7m8 : Method := { name := "coder", desc := "()B", sig := { parameters := [], returnType := some .byte }, accessFlags := 0, code := some k7c8 }
def k7c9 : Code := { maxStack := 1, maxLocals := 1, code := jdk_42_method_154_code, exceptionTable := #[], attributes := #[] }
def k7m9 : Method := { name := "isLatin1", desc := "()Z", sig := { parameters := [], returnType := some .boolean }, accessFlags := 0, code := some k7c9 }
def k7c10 : Code := { maxStack := 4, maxLocals := 3, code := jdk_42_method_158_code, exceptionTable := #[], attributes := #[] }
def k7m10 : Method := { name := "checkBoundsBeginEnd", desc := "(III)V", sig := { parameters := [.int, .int, .int], returnType := none }, accessFlags := 8, code := some k7c10 }
/-- java/lang/String -/
def k7 : Class := { plain "java/lang/String" (some 0) with
  accessFlags := 49
  interfaces := #[2, 3, 4, 5, 6]
  cf := some (fileOf pool7 10 #[.nestMembers #[1103]] #[{ accessFlags := 1, nameIndex := 5, descriptorIndex := 6, attributes := #[] }, { accessFlags := 1, nameIndex := 5, descriptorIndex := 1010, attributes := #[] }, { accessFlags := 1, nameIndex := 507, descriptorIndex := 334, attributes := #[] }, { accessFlags := 1, nameIndex := 692, descriptorIndex := 142, attributes := #[] }, { accessFlags := 1, nameIndex := 543, descriptorIndex := 573, attributes := #[] }, { accessFlags := 1, nameIndex := 635, descriptorIndex := 765, attributes := #[] }, { accessFlags := 1, nameIndex := 635, descriptorIndex := 636, attributes := #[] }, { accessFlags := 2, nameIndex := 5, descriptorIndex := 29, attributes := #[] }, { accessFlags := 0, nameIndex := 17, descriptorIndex := 337, attributes := #[] }, { accessFlags := 0, nameIndex := 494, descriptorIndex := 142, attributes := #[] }, { accessFlags := 8, nameIndex := 523, descriptorIndex := 524, attributes := #[] }] 49 2 #[1106, 1108, 575, 1110, 1112] #[{ accessFlags := 18, nameIndex := 13, descriptorIndex := 14, attributes := #[] }, { accessFlags := 18, nameIndex := 17, descriptorIndex := 18, attributes := #[] }, { accessFlags := 2, nameIndex := 21, descriptorIndex := 22, attributes := #[] }, { accessFlags := 2, nameIndex := 25, descriptorIndex := 26, attributes := #[] }, { accessFlags := 26, nameIndex := 1116, descriptorIndex := 1117, attributes := #[] }, { accessFlags := 24, nameIndex := 40, descriptorIndex := 26, attributes := #[] }, { accessFlags := 26, nameIndex := 1101, descriptorIndex := 1102, attributes := #[] }, { accessFlags := 26, nameIndex := 1121, descriptorIndex := 1122, attributes := #[] }, { accessFlags := 25, nameIndex := 599, descriptorIndex := 600, attributes := #[] }, { accessFlags := 24, nameIndex := 1125, descriptorIndex := 18, attributes := #[] }, { accessFlags := 24, nameIndex := 1127, descriptorIndex := 18, attributes := #[] }])
  fields := #[{ name := "value", type := (.array .byte), accessFlags := 18, slot := 0, constantValue := 0 }, { name := "coder", type := .byte, accessFlags := 18, slot := 1, constantValue := 0 }, { name := "hash", type := .int, accessFlags := 2, slot := 2, constantValue := 0 }, { name := "hashIsZero", type := .boolean, accessFlags := 2, slot := 3, constantValue := 0 }, { name := "serialVersionUID", type := .long, accessFlags := 26, slot := 0, constantValue := 0 }, { name := "COMPACT_STRINGS", type := .boolean, accessFlags := 24, slot := 1, constantValue := 0 }, { name := "serialPersistentFields", type := (.array (.object "java/io/ObjectStreamField")), accessFlags := 26, slot := 2, constantValue := 0 }, { name := "REPL", type := .char, accessFlags := 26, slot := 3, constantValue := 0 }, { name := "CASE_INSENSITIVE_ORDER", type := (.object "java/util/Comparator"), accessFlags := 25, slot := 4, constantValue := 0 }, { name := "LATIN1", type := .byte, accessFlags := 24, slot := 5, constantValue := 0 }, { name := "UTF16", type := .byte, accessFlags := 24, slot := 6, constantValue := 0 }]
  methods := #[k7m0, k7m1, k7m2, k7m3, k7m4, k7m5, k7m6, k7m7, k7m8, k7m9, k7m10]
  instanceTypes := #[(.array .byte), .byte, .int, .boolean]
  staticTypes := #[.long, .boolean, (.array (.object "java/io/ObjectStreamField")), .char, (.object "java/util/Comparator"), .byte, .byte]
  resolved := Array.replicate 1451 none
  statics := some 0 }

def pool8 : Array CpInfo := pool [(2, .class_ 4), (1, u "java/lang/Object"), (0, u "<init>"), (0, u "()V"), (0, .class_ 8), (0, u "java/lang/Record")] 13

def k8m0 : Method := { name := "<init>", desc := "()V", sig := { parameters := [], returnType := none }, accessFlags := 4, code := none }
/-- java/lang/Record -/
def k8 : Class := { plain "java/lang/Record" (some 0) with
  accessFlags := 1057
  interfaces := #[]
  cf := some (fileOf pool8 7 #[] #[{ accessFlags := 4, nameIndex := 5, descriptorIndex := 6, attributes := #[] }] 1057 2 #[] #[])
  fields := #[]
  methods := #[k8m0]
  instanceTypes := #[]
  staticTypes := #[]
  resolved := Array.replicate 22 none
  statics := none }

def pool9 : Array CpInfo := pool [(2, .class_ 4), (1, u "java/lang/Record"), (9, .class_ 16), (1, u "com/example/attestbridge/attestbridge/sync/AclPolicy"), (0, u "roles"), (0, u "Ljava/util/List;"), (2, u "members"), (2, u "grants"), (2, u "leftOut"), (6, .class_ 35), (0, u "com/example/attestbridge/attestbridge/sync/AclPolicy$Reader"), (9, .class_ 46), (0, u "java/lang/String"), (24, .methodref 45 72), (0, .nameAndType 73 74), (0, u "isEmpty"), (0, u "()Z"), (0, .string 76), (0, u "."), (0, .methodref 45 78), (0, .nameAndType 79 80), (0, u "equals"), (0, u "(Ljava/lang/Object;)Z"), (0, .string 82), (0, u ".."), (0, .methodref 45 84), (0, .nameAndType 85 86), (0, u "indexOf"), (0, u "(I)I"), (15, u "MEMBER"), (0, u "Ljava/lang/String;"), (3, u "GRANT"), (11, u "isName"), (0, u "(Ljava/lang/String;)Z"), (8, .class_ 130), (0, u "com/example/attestbridge/attestbridge/sync/AclPolicy$Grant"), (0, .class_ 132), (0, u "com/example/attestbridge/attestbridge/sync/AclPolicy$Member")] 24

def k9c0 : Code := { maxStack := 2, maxLocals := 1, code := prog_60_method_3_code, exceptionTable := #[], attributes := #[] }
def k9m0 : Method := { name := "isName", desc := "(Ljava/lang/String;)Z", sig := { parameters := [(.object "java/lang/String")], returnType := some .boolean }, accessFlags := 8, code := some k9c0 }
/-- com/example/attestbridge/attestbridge/sync/AclPolicy -/
def k9 : Class := { plain "com/example/attestbridge/attestbridge/sync/AclPolicy" (some 8) with
  accessFlags := 49
  interfaces := #[]
  cf := some (fileOf pool9 14 #[.nestMembers #[34, 129, 131]] #[{ accessFlags := 8, nameIndex := 119, descriptorIndex := 120, attributes := #[] }] 49 2 #[] #[{ accessFlags := 18, nameIndex := 17, descriptorIndex := 18, attributes := #[] }, { accessFlags := 18, nameIndex := 21, descriptorIndex := 18, attributes := #[] }, { accessFlags := 18, nameIndex := 24, descriptorIndex := 18, attributes := #[] }, { accessFlags := 18, nameIndex := 27, descriptorIndex := 18, attributes := #[] }, { accessFlags := 26, nameIndex := 102, descriptorIndex := 103, attributes := #[] }, { accessFlags := 26, nameIndex := 107, descriptorIndex := 103, attributes := #[] }])
  fields := #[{ name := "roles", type := (.object "java/util/List"), accessFlags := 18, slot := 0, constantValue := 0 }, { name := "members", type := (.object "java/util/List"), accessFlags := 18, slot := 1, constantValue := 0 }, { name := "grants", type := (.object "java/util/List"), accessFlags := 18, slot := 2, constantValue := 0 }, { name := "leftOut", type := (.object "java/util/List"), accessFlags := 18, slot := 3, constantValue := 0 }, { name := "MEMBER", type := (.object "java/lang/String"), accessFlags := 26, slot := 0, constantValue := 0 }, { name := "GRANT", type := (.object "java/lang/String"), accessFlags := 26, slot := 1, constantValue := 0 }]
  methods := #[k9m0]
  instanceTypes := #[(.object "java/util/List"), (.object "java/util/List"), (.object "java/util/List"), (.object "java/util/List")]
  staticTypes := #[(.object "java/lang/String"), (.object "java/lang/String")]
  resolved := Array.replicate 157 none
  statics := none }

def pool10 : Array CpInfo := pool [(3, .class_ 4), (0, u "java/lang/String"), (1, .class_ 8), (1, u "java/lang/Object"), (0, u "<init>"), (0, u "()V"), (0, .methodref 12 13), (0, .class_ 14), (0, .nameAndType 15 16), (0, u "java/lang/StringUTF16"), (0, u "newBytesLength"), (0, u "(I)I"), (3, .integer 1073741823), (23, .fieldref 12 45), (0, .nameAndType 46 47), (0, u "$assertionsDisabled"), (0, u "Z"), (0, .methodref 12 49), (0, .nameAndType 50 51), (0, u "length"), (0, u "([B)I"), (7, .fieldref 12 60), (0, .nameAndType 61 62), (0, u "HI_BYTE_SHIFT"), (0, u "I"), (0, .fieldref 12 64), (0, .nameAndType 65 62), (0, u "LO_BYTE_SHIFT"), (5, .methodref 12 72), (0, .nameAndType 73 74), (0, u "getChar"), (0, u "([BI)C"), (21, .methodref 12 97), (0, .nameAndType 98 99), (0, u "checkBoundsBeginEnd"), (0, u "(II[B)V"), (7, .methodref 12 108), (0, .nameAndType 109 110), (0, u "newBytesFor"), (0, u "(I)[B"), (0, .methodref 12 112), (0, .nameAndType 113 114), (0, u "putChar"), (0, u "([BII)V"), (0, .methodref 12 116), (0, .nameAndType 117 118), (0, u "compress"), (0, u "([CI[BII)I"), (0, .methodref 12 120), (0, .nameAndType 121 122), (0, u "toBytes"), (0, u "([CII)[B"), (60, .methodref 184 185), (0, .class_ 186), (0, .nameAndType 187 188), (0, u "java/lang/Math"), (0, u "min"), (0, u "(II)I"), (35, .methodref 184 225), (0, .nameAndType 226 188), (0, u "max"), (0, .integer 65536), (0, .methodref 12 229), (0, .nameAndType 230 231), (0, u "indexOfChar"), (0, u "([BIII)I"), (9, .methodref 3 242), (0, .nameAndType 98 243), (0, u "(III)V"), (0, .methodref 12 245), (0, .nameAndType 246 231), (0, u "indexOfCharUnsafe"), (14, u "coderFromArrayLen"), (0, u "([BI)B"), (5, u "indexOf"), (100, .class_ 371), (1, u "java/lang/StringUTF16$LinesSpliterator"), (58, u "MAX_LENGTH"), (196, .class_ 628), (0, u "java/lang/StringUTF16$CodePointsSpliterator"), (0, .class_ 630), (0, u "java/lang/StringUTF16$CharsSpliterator")] 4

def k10m0 : Method := { name := "<init>", desc := "()V", sig := { parameters := [], returnType := none }, accessFlags := 0, code := none }
def k10c1 : Code := { maxStack := 1, maxLocals := 1, code := jdk_52_method_2_code, exceptionTable := #[], attributes := #[] }
def k10m1 : Method := { name := "newBytesFor", desc := "(I)[B", sig := { parameters := [.int], returnType := some (.array .byte) }, accessFlags := 9, code := some k10c1 }
def k10c2 : Code := { maxStack := 4, maxLocals := 1, code := jdk_52_method_3_code, exceptionTable := #[], attributes := #[] }
def k10m2 : Method := { name := "newBytesLength", desc := "(I)I", sig := { parameters := [.int], returnType := some .int }, accessFlags := 9, code := some k10c2 }
def k10c3 : Code := { maxStack := 4, maxLocals := 3, code := jdk_52_method_4_code, exceptionTable := #[], attributes := #[] }
def k10m3 : Method := { name := "putChar", desc := "([BII)V", sig := { parameters := [(.array .byte), .int, .int], returnType := none }, accessFlags := 8, code := some k10c3 }
def k10c4 : Code := { maxStack := 3, maxLocals := 2, code := jdk_52_method_5_code, exceptionTable := #[], attributes := #[] }
def k10m4 : Method := { name := "getChar", desc := "([BI)C", sig := { parameters := [(.array .byte), .int], returnType := some .char }, accessFlags := 8, code := some k10c4 }
def k10c5 : Code := { maxStack := 2, maxLocals := 1, code := jdk_52_method_6_code, exceptionTable := #[], attributes := #[] }
def k10m5 : Method := { name := "length", desc := "([B)I", sig := { parameters := [(.array .byte)], returnType := some .int }, accessFlags := 9, code := some k10c5 }
def k10c6 : Code := { maxStack := 4, maxLocals := 5, code := jdk_52_method_14_code, exceptionTable := #[], attributes := #[] }
def k10m6 : Method := { name := "toBytes", desc := "([CII)[B", sig := { parameters := [(.array .char), .int, .int], returnType := some (.array .byte) }, accessFlags := 9, code := some k10c6 }
def k10c7 : Code := { maxStack := 2, maxLocals := 2, code := jdk_52_method_15_code, exceptionTable := #[], attributes := #[] }
def k10m7 : Method := { name := "coderFromArrayLen", desc := "([BI)B", sig := { parameters := [(.array .byte), .int], returnType := some .byte }, accessFlags := 8, code := some k10c7 }
def k10c8 : Code := { maxStack := 5, maxLocals := 6, code := jdk_52_method_16_code, exceptionTable := #[], attributes := #[] }
def k10m8 : Method := { name := "compress", desc := "([CII)[B", sig := { parameters := [(.array .char), .int, .int], returnType := some (.array .byte) }, accessFlags := 9, code := some k10c8 }
def k10c9 : Code := { maxStack := 3, maxLocals := 7, code := jdk_52_method_21_code, exceptionTable := #[], attributes := #[] }
def k10m9 : Method := { name := "compress", desc := "([CI[BII)I", sig := { parameters := [(.array .char), .int, (.array .byte), .int, .int], returnType := some .int }, accessFlags := 9, code := some k10c9 }
def k10c10 : Code := { maxStack := 4, maxLocals := 4, code := jdk_52_method_40_code, exceptionTable := #[], attributes := #[] }
def k10m10 : Method := { name := "indexOf", desc := "([BIII)I", sig := { parameters := [(.array .byte), .int, .int, .int], returnType := some .int }, accessFlags := 9, code := some k10c10 }
def k10c11 : Code := { maxStack := 4, maxLocals := 4, code := jdk_52_method_47_code, exceptionTable := #[], attributes := #[] }
def k10m11 : Method := { name := "indexOfChar", desc := "([BIII)I", sig := { parameters := [(.array .byte), .int, .int, .int], returnType := some .int }, accessFlags := 10, code := some k10c11 }
def k10c12 : Code := { maxStack := 2, maxLocals := 5, code := jdk_52_method_48_code, exceptionTable := #[], attributes := #[] }
def k10m12 : Method := { name := "indexOfCharUnsafe", desc := "([BIII)I", sig := { parameters := [(.array .byte), .int, .int, .int], returnType := some .int }, accessFlags := 10, code := some k10c12 }
def k10c13 : Code := { maxStack := 3, maxLocals := 3, code := jdk_52_method_93_code, exceptionTable := #[], attributes := #[] }
def k10m13 : Method := { name := "checkBoundsBeginEnd", desc := "(II[B)V", sig := { parameters := [.int, .int, (.array .byte)], returnType := none }, accessFlags := 9, code := some k10c13 }
/-- java/lang/StringUTF16 -/
def k10 : Class := { plain "java/lang/StringUTF16" (some 0) with
  accessFlags := 48
  interfaces := #[]
  cf := some (fileOf pool10 12 #[.nestMembers #[627, 629, 369]] #[{ accessFlags := 0, nameIndex := 9, descriptorIndex := 10, attributes := #[] }, { accessFlags := 9, nameIndex := 109, descriptorIndex := 110, attributes := #[] }, { accessFlags := 9, nameIndex := 15, descriptorIndex := 16, attributes := #[] }, { accessFlags := 8, nameIndex := 113, descriptorIndex := 114, attributes := #[] }, { accessFlags := 8, nameIndex := 73, descriptorIndex := 74, attributes := #[] }, { accessFlags := 9, nameIndex := 50, descriptorIndex := 51, attributes := #[] }, { accessFlags := 9, nameIndex := 121, descriptorIndex := 122, attributes := #[] }, { accessFlags := 8, nameIndex := 261, descriptorIndex := 262, attributes := #[] }, { accessFlags := 9, nameIndex := 117, descriptorIndex := 122, attributes := #[] }, { accessFlags := 9, nameIndex := 117, descriptorIndex := 118, attributes := #[] }, { accessFlags := 9, nameIndex := 268, descriptorIndex := 231, attributes := #[] }, { accessFlags := 10, nameIndex := 230, descriptorIndex := 231, attributes := #[] }, { accessFlags := 10, nameIndex := 246, descriptorIndex := 231, attributes := #[] }, { accessFlags := 9, nameIndex := 98, descriptorIndex := 99, attributes := #[] }] 48 6 #[] #[{ accessFlags := 26, nameIndex := 61, descriptorIndex := 62, attributes := #[] }, { accessFlags := 26, nameIndex := 65, descriptorIndex := 62, attributes := #[] }, { accessFlags := 24, nameIndex := 430, descriptorIndex := 62, attributes := #[] }, { accessFlags := 4120, nameIndex := 46, descriptorIndex := 47, attributes := #[] }])
  fields := #[{ name := "HI_BYTE_SHIFT", type := .int, accessFlags := 26, slot := 0, constantValue := 0 }, { name := "LO_BYTE_SHIFT", type := .int, accessFlags := 26, slot := 1, constantValue := 0 }, { name := "MAX_LENGTH", type := .int, accessFlags := 24, slot := 2, constantValue := 0 }, { name := "$assertionsDisabled", type := .boolean, accessFlags := 4120, slot := 3, constantValue := 0 }]
  methods := #[k10m0, k10m1, k10m2, k10m3, k10m4, k10m5, k10m6, k10m7, k10m8, k10m9, k10m10, k10m11, k10m12, k10m13]
  instanceTypes := #[]
  staticTypes := #[.int, .int, .int, .boolean]
  resolved := Array.replicate 635 none
  statics := some 1 }

def pool11 : Array CpInfo := pool [(4, .class_ 6), (1, u "java/lang/Object"), (0, u "<init>"), (0, u "()V"), (5, .class_ 16), (1, u "java/lang/StringLatin1"), (21, .methodref 39 40), (0, .class_ 41), (0, .nameAndType 42 43), (0, u "java/lang/Math"), (0, u "min"), (0, u "(II)I"), (44, .methodref 14 89), (0, .nameAndType 90 91), (0, u "canEncode"), (0, u "(I)Z"), (0, .methodref 39 93), (0, .nameAndType 94 43), (0, u "max"), (0, .methodref 14 96), (0, .nameAndType 97 98), (0, u "indexOfChar"), (0, u "([BIII)I"), (2, u "indexOf"), (19, u "$assertionsDisabled"), (0, u "Z"), (98, .class_ 223), (1, u "java/lang/StringLatin1$LinesSpliterator"), (57, u "equals"), (0, u "([B[B)Z"), (107, .class_ 391), (0, u "java/lang/StringLatin1$CharsSpliterator")] 3

def k11m0 : Method := { name := "<init>", desc := "()V", sig := { parameters := [], returnType := none }, accessFlags := 0, code := none }
def k11c1 : Code := { maxStack := 2, maxLocals := 1, code := jdk_43_method_4_code, exceptionTable := #[], attributes := #[] }
def k11m1 : Method := { name := "canEncode", desc := "(I)Z", sig := { parameters := [.int], returnType := some .boolean }, accessFlags := 9, code := some k11c1 }
def k11c2 : Code := { maxStack := 3, maxLocals := 3, code := jdk_43_method_13_code, exceptionTable := #[], attributes := #[] }
def k11m2 : Method := { name := "equals", desc := "([B[B)Z", sig := { parameters := [(.array .byte), (.array .byte)], returnType := some .boolean }, accessFlags := 9, code := some k11c2 }
def k11c3 : Code := { maxStack := 4, maxLocals := 4, code := jdk_43_method_22_code, exceptionTable := #[], attributes := #[] }
def k11m3 : Method := { name := "indexOf", desc := "([BIII)I", sig := { parameters := [(.array .byte), .int, .int, .int], returnType := some .int }, accessFlags := 9, code := some k11c3 }
def k11c4 : Code := { maxStack := 2, maxLocals := 6, code := jdk_43_method_23_code, exceptionTable := #[], attributes := #[] }
def k11m4 : Method := { name := "indexOfChar", desc := "([BIII)I", sig := { parameters := [(.array .byte), .int, .int, .int], returnType := some .int }, accessFlags := 10, code := some k11c4 }
/-- java/lang/StringLatin1 -/
def k11 : Class := { plain "java/lang/StringLatin1" (some 0) with
  accessFlags := 48
  interfaces := #[]
  cf := some (fileOf pool11 14 #[.nestMembers #[390, 221]] #[{ accessFlags := 0, nameIndex := 7, descriptorIndex := 8, attributes := #[] }, { accessFlags := 9, nameIndex := 90, descriptorIndex := 91, attributes := #[] }, { accessFlags := 9, nameIndex := 281, descriptorIndex := 282, attributes := #[] }, { accessFlags := 9, nameIndex := 101, descriptorIndex := 98, attributes := #[] }, { accessFlags := 10, nameIndex := 97, descriptorIndex := 98, attributes := #[] }] 48 4 #[] #[{ accessFlags := 4120, nameIndex := 121, descriptorIndex := 122, attributes := #[] }])
  fields := #[{ name := "$assertionsDisabled", type := .boolean, accessFlags := 4120, slot := 0, constantValue := 0 }]
  methods := #[k11m0, k11m1, k11m2, k11m3, k11m4]
  instanceTypes := #[]
  staticTypes := #[.boolean]
  resolved := Array.replicate 395 none
  statics := none }

def pool12 : Array CpInfo := pool [(1, .class_ 2), (0, u "java/lang/Math"), (1, .class_ 6), (1, u "java/lang/Object"), (0, u "<init>"), (0, u "()V"), (89, .class_ 100), (1, u "java/lang/Math$RandomNumberGeneratorHolder"), (71, u "negativeZeroFloatBits"), (0, u "J"), (2, u "negativeZeroDoubleBits"), (21, u "max"), (2, u "min"), (43, u "$assertionsDisabled"), (0, u "Z"), (88, u "(II)I"), (2, u "twoToTheDoubleScaleDown"), (0, u "D"), (4, u "twoToTheDoubleScaleUp"), (9, u "E"), (3, u "PI"), (2, u "TAU"), (2, u "DEGREES_TO_RADIANS"), (0, u "RADIANS_TO_DEGREES")] 94

def k12m0 : Method := { name := "<init>", desc := "()V", sig := { parameters := [], returnType := none }, accessFlags := 2, code := none }
def k12c1 : Code := { maxStack := 2, maxLocals := 2, code := jdk_29_method_65_code, exceptionTable := #[], attributes := #[] }
def k12m1 : Method := { name := "max", desc := "(II)I", sig := { parameters := [.int, .int], returnType := some .int }, accessFlags := 9, code := some k12c1 }
def k12c2 : Code := { maxStack := 2, maxLocals := 2, code := jdk_29_method_69_code, exceptionTable := #[], attributes := #[] }
def k12m2 : Method := { name := "min", desc := "(II)I", sig := { parameters := [.int, .int], returnType := some .int }, accessFlags := 9, code := some k12c2 }
/-- java/lang/Math -/
def k12 : Class := { plain "java/lang/Math" (some 0) with
  accessFlags := 49
  interfaces := #[]
  cf := some (fileOf pool12 1 #[.nestMembers #[98]] #[{ accessFlags := 2, nameIndex := 7, descriptorIndex := 8, attributes := #[] }, { accessFlags := 9, nameIndex := 198, descriptorIndex := 335, attributes := #[] }, { accessFlags := 9, nameIndex := 201, descriptorIndex := 335, attributes := #[] }] 49 4 #[] #[{ accessFlags := 25, nameIndex := 354, descriptorIndex := 339, attributes := #[] }, { accessFlags := 25, nameIndex := 358, descriptorIndex := 339, attributes := #[] }, { accessFlags := 25, nameIndex := 361, descriptorIndex := 339, attributes := #[] }, { accessFlags := 26, nameIndex := 364, descriptorIndex := 339, attributes := #[] }, { accessFlags := 26, nameIndex := 365, descriptorIndex := 339, attributes := #[] }, { accessFlags := 26, nameIndex := 172, descriptorIndex := 173, attributes := #[] }, { accessFlags := 26, nameIndex := 176, descriptorIndex := 173, attributes := #[] }, { accessFlags := 8, nameIndex := 344, descriptorIndex := 339, attributes := #[] }, { accessFlags := 8, nameIndex := 338, descriptorIndex := 339, attributes := #[] }, { accessFlags := 4120, nameIndex := 245, descriptorIndex := 246, attributes := #[] }])
  fields := #[{ name := "E", type := .double, accessFlags := 25, slot := 0, constantValue := 0 }, { name := "PI", type := .double, accessFlags := 25, slot := 1, constantValue := 0 }, { name := "TAU", type := .double, accessFlags := 25, slot := 2, constantValue := 0 }, { name := "DEGREES_TO_RADIANS", type := .double, accessFlags := 26, slot := 3, constantValue := 0 }, { name := "RADIANS_TO_DEGREES", type := .double, accessFlags := 26, slot := 4, constantValue := 0 }, { name := "negativeZeroFloatBits", type := .long, accessFlags := 26, slot := 5, constantValue := 0 }, { name := "negativeZeroDoubleBits", type := .long, accessFlags := 26, slot := 6, constantValue := 0 }, { name := "twoToTheDoubleScaleUp", type := .double, accessFlags := 8, slot := 7, constantValue := 0 }, { name := "twoToTheDoubleScaleDown", type := .double, accessFlags := 8, slot := 8, constantValue := 0 }, { name := "$assertionsDisabled", type := .boolean, accessFlags := 4120, slot := 9, constantValue := 0 }]
  methods := #[k12m0, k12m1, k12m2]
  instanceTypes := #[]
  staticTypes := #[.double, .double, .double, .double, .double, .long, .long, .double, .double, .boolean]
  resolved := Array.replicate 460 none
  statics := none }

def pool13 : Array CpInfo := pool [(2, .class_ 4), (1, u "java/lang/Object"), (0, u "<init>"), (0, u "()V"), (17, .class_ 26), (1, u "jdk/internal/util/Preconditions"), (20, u "checkFromToIndex"), (7, .class_ 56), (0, u "jdk/internal/util/Preconditions$4"), (57, .class_ 115), (0, u "jdk/internal/util/Preconditions$1"), (7, u "SIOOBE_FORMATTER"), (0, u "Ljava/util/function/BiFunction;"), (0, .class_ 126), (0, u "jdk/internal/util/Preconditions$2"), (3, u "AIOOBE_FORMATTER"), (0, .class_ 132), (0, u "jdk/internal/util/Preconditions$3"), (3, u "IOOBE_FORMATTER"), (46, u "(IIILjava/util/function/BiFunction;)I")] 10

def k13m0 : Method := { name := "<init>", desc := "()V", sig := { parameters := [], returnType := none }, accessFlags := 1, code := none }
def k13c1 : Code := { maxStack := 4, maxLocals := 4, code := jdk_41_method_12_code, exceptionTable := #[], attributes := #[] }
def k13m1 : Method := { name := "checkFromToIndex", desc := "(IIILjava/util/function/BiFunction;)I", sig := { parameters := [.int, .int, .int, (.object "java/util/function/BiFunction")], returnType := some .int }, accessFlags := 9, code := some k13c1 }
/-- jdk/internal/util/Preconditions -/
def k13 : Class := { plain "jdk/internal/util/Preconditions" (some 0) with
  accessFlags := 33
  interfaces := #[]
  cf := some (fileOf pool13 24 #[.nestMembers #[55, 131, 125, 114]] #[{ accessFlags := 1, nameIndex := 5, descriptorIndex := 6, attributes := #[] }, { accessFlags := 9, nameIndex := 47, descriptorIndex := 183, attributes := #[] }] 33 2 #[] #[{ accessFlags := 25, nameIndex := 123, descriptorIndex := 124, attributes := #[] }, { accessFlags := 25, nameIndex := 130, descriptorIndex := 124, attributes := #[] }, { accessFlags := 25, nameIndex := 136, descriptorIndex := 124, attributes := #[] }])
  fields := #[{ name := "SIOOBE_FORMATTER", type := (.object "java/util/function/BiFunction"), accessFlags := 25, slot := 0, constantValue := 0 }, { name := "AIOOBE_FORMATTER", type := (.object "java/util/function/BiFunction"), accessFlags := 25, slot := 1, constantValue := 0 }, { name := "IOOBE_FORMATTER", type := (.object "java/util/function/BiFunction"), accessFlags := 25, slot := 2, constantValue := 0 }]
  methods := #[k13m0, k13m1]
  instanceTypes := #[]
  staticTypes := #[(.object "java/util/function/BiFunction"), (.object "java/util/function/BiFunction"), (.object "java/util/function/BiFunction")]
  resolved := Array.replicate 194 none
  statics := some 2 }

def pool14 : Array CpInfo := pool [(9, u "<init>"), (6, .class_ 18), (1, u "java/lang/Object"), (0, u "()V"), (1, .class_ 23), (1, u "jdk/internal/util/ArraysSupport"), (0, u "LOG2_ARRAY_LONG_INDEX_SCALE"), (0, u "I"), (2, u "U"), (0, u "Ljdk/internal/misc/Unsafe;"), (8, u "BIG_ENDIAN"), (0, u "Z"), (8, u "LOG2_BYTE_BIT_SIZE"), (4, u "LOG2_ARRAY_INT_INDEX_SCALE"), (54, u "JLA"), (0, u "Ljdk/internal/access/JavaLangAccess;"), (11, u "LOG2_ARRAY_BOOLEAN_INDEX_SCALE"), (9, u "LOG2_ARRAY_BYTE_INDEX_SCALE"), (5, u "LOG2_ARRAY_CHAR_INDEX_SCALE"), (5, u "LOG2_ARRAY_SHORT_INDEX_SCALE"), (18, u "LOG2_ARRAY_FLOAT_INDEX_SCALE"), (24, u "LOG2_ARRAY_DOUBLE_INDEX_SCALE"), (89, u "T_BOOLEAN"), (2, u "T_CHAR"), (1, u "T_FLOAT"), (1, u "T_DOUBLE"), (1, u "T_BYTE"), (1, u "T_SHORT"), (1, u "T_INT"), (1, u "T_LONG"), (1, u "SOFT_MAX_ARRAY_LENGTH")] 83

def k14m0 : Method := { name := "<init>", desc := "()V", sig := { parameters := [], returnType := none }, accessFlags := 2, code := none }
/-- jdk/internal/util/ArraysSupport -/
def k14 : Class := { plain "jdk/internal/util/ArraysSupport" (some 0) with
  accessFlags := 33
  interfaces := #[]
  cf := some (fileOf pool14 21 #[] #[{ accessFlags := 2, nameIndex := 9, descriptorIndex := 19, attributes := #[] }] 33 16 #[] #[{ accessFlags := 24, nameIndex := 28, descriptorIndex := 29, attributes := #[] }, { accessFlags := 26, nameIndex := 38, descriptorIndex := 39, attributes := #[] }, { accessFlags := 25, nameIndex := 121, descriptorIndex := 25, attributes := #[] }, { accessFlags := 25, nameIndex := 131, descriptorIndex := 25, attributes := #[] }, { accessFlags := 25, nameIndex := 137, descriptorIndex := 25, attributes := #[] }, { accessFlags := 25, nameIndex := 143, descriptorIndex := 25, attributes := #[] }, { accessFlags := 25, nameIndex := 53, descriptorIndex := 25, attributes := #[] }, { accessFlags := 25, nameIndex := 24, descriptorIndex := 25, attributes := #[] }, { accessFlags := 25, nameIndex := 162, descriptorIndex := 25, attributes := #[] }, { accessFlags := 25, nameIndex := 187, descriptorIndex := 25, attributes := #[] }, { accessFlags := 26, nameIndex := 48, descriptorIndex := 25, attributes := #[] }, { accessFlags := 25, nameIndex := 277, descriptorIndex := 25, attributes := #[] }, { accessFlags := 25, nameIndex := 280, descriptorIndex := 25, attributes := #[] }, { accessFlags := 25, nameIndex := 282, descriptorIndex := 25, attributes := #[] }, { accessFlags := 25, nameIndex := 284, descriptorIndex := 25, attributes := #[] }, { accessFlags := 25, nameIndex := 286, descriptorIndex := 25, attributes := #[] }, { accessFlags := 25, nameIndex := 288, descriptorIndex := 25, attributes := #[] }, { accessFlags := 25, nameIndex := 290, descriptorIndex := 25, attributes := #[] }, { accessFlags := 25, nameIndex := 292, descriptorIndex := 25, attributes := #[] }, { accessFlags := 26, nameIndex := 108, descriptorIndex := 109, attributes := #[] }, { accessFlags := 25, nameIndex := 294, descriptorIndex := 25, attributes := #[] }])
  fields := #[{ name := "U", type := (.object "jdk/internal/misc/Unsafe"), accessFlags := 24, slot := 0, constantValue := 0 }, { name := "BIG_ENDIAN", type := .boolean, accessFlags := 26, slot := 1, constantValue := 0 }, { name := "LOG2_ARRAY_BOOLEAN_INDEX_SCALE", type := .int, accessFlags := 25, slot := 2, constantValue := 0 }, { name := "LOG2_ARRAY_BYTE_INDEX_SCALE", type := .int, accessFlags := 25, slot := 3, constantValue := 0 }, { name := "LOG2_ARRAY_CHAR_INDEX_SCALE", type := .int, accessFlags := 25, slot := 4, constantValue := 0 }, { name := "LOG2_ARRAY_SHORT_INDEX_SCALE", type := .int, accessFlags := 25, slot := 5, constantValue := 0 }, { name := "LOG2_ARRAY_INT_INDEX_SCALE", type := .int, accessFlags := 25, slot := 6, constantValue := 0 }, { name := "LOG2_ARRAY_LONG_INDEX_SCALE", type := .int, accessFlags := 25, slot := 7, constantValue := 0 }, { name := "LOG2_ARRAY_FLOAT_INDEX_SCALE", type := .int, accessFlags := 25, slot := 8, constantValue := 0 }, { name := "LOG2_ARRAY_DOUBLE_INDEX_SCALE", type := .int, accessFlags := 25, slot := 9, constantValue := 0 }, { name := "LOG2_BYTE_BIT_SIZE", type := .int, accessFlags := 26, slot := 10, constantValue := 0 }, { name := "T_BOOLEAN", type := .int, accessFlags := 25, slot := 11, constantValue := 0 }, { name := "T_CHAR", type := .int, accessFlags := 25, slot := 12, constantValue := 0 }, { name := "T_FLOAT", type := .int, accessFlags := 25, slot := 13, constantValue := 0 }, { name := "T_DOUBLE", type := .int, accessFlags := 25, slot := 14, constantValue := 0 }, { name := "T_BYTE", type := .int, accessFlags := 25, slot := 15, constantValue := 0 }, { name := "T_SHORT", type := .int, accessFlags := 25, slot := 16, constantValue := 0 }, { name := "T_INT", type := .int, accessFlags := 25, slot := 17, constantValue := 0 }, { name := "T_LONG", type := .int, accessFlags := 25, slot := 18, constantValue := 0 }, { name := "JLA", type := (.object "jdk/internal/access/JavaLangAccess"), accessFlags := 26, slot := 19, constantValue := 0 }, { name := "SOFT_MAX_ARRAY_LENGTH", type := .int, accessFlags := 25, slot := 20, constantValue := 0 }]
  methods := #[k14m0]
  instanceTypes := #[]
  staticTypes := #[(.object "jdk/internal/misc/Unsafe"), .boolean, .int, .int, .int, .int, .int, .int, .int, .int, .int, .int, .int, .int, .int, .int, .int, .int, .int, (.object "jdk/internal/access/JavaLangAccess"), .int]
  resolved := Array.replicate 378 none
  statics := none }

def pool15 : Array CpInfo := pool [(1, u "java/lang/Cloneable"), (0, .class_ 1), (0, u "java/lang/Object"), (0, .class_ 3)] 3

/-- java/lang/Cloneable -/
def k15 : Class := { plain "java/lang/Cloneable" (some 0) with
  accessFlags := 1537
  interfaces := #[]
  cf := some (fileOf pool15 2 #[] #[] 1537 4 #[] #[])
  fields := #[]
  methods := #[]
  instanceTypes := #[]
  staticTypes := #[]
  resolved := Array.replicate 8 none
  statics := none }

/-- the primitive byte -/
def k16 : Class := { plain "byte" none with kind := .primitive 'B', accessFlags := 0x411 }
/-- [B -/
def k17 : Class := { plain "[B" (some 0) with kind := .array 16 .byte, interfaces := #[15, 2], accessFlags := 1041 }

/-- the primitive char -/
def k18 : Class := { plain "char" none with kind := .primitive 'C', accessFlags := 0x411 }
/-- [C -/
def k19 : Class := { plain "[C" (some 0) with kind := .array 18 .char, interfaces := #[15, 2], accessFlags := 1041 }

/-- the primitive int -/
def k20 : Class := { plain "int" none with kind := .primitive 'I', accessFlags := 0x411 }
/-- [I -/
def k21 : Class := { plain "[I" (some 0) with kind := .array 20 .int, interfaces := #[15, 2], accessFlags := 1041 }

def heap : Heap := #[{ cls := 7, slots := #[.long 0, .int 1, .null, .int 0, .null, .int 0, .int 0], vm := .statics 7 },
  { cls := 10, slots := #[.int 0, .int 8, .int 0, .int 1], vm := .statics 10 },
  { cls := 13, slots := #[.null, .null, .null], vm := .statics 13 }]
def classes : Array Class := #[k0, k1, k2, k3, k4, k5, k6, k7, k8, k9, k10, k11, k12, k13, k14, k15, k16, k17, k18, k19, k20, k21]
def interned : List (Array UInt16 × Addr) := []
def slotsUsed : Nat := 14
def theMethod : MethodId := ⟨1, 2⟩
def args0 : Array Value := #[.int 5, .int 6, .int 7, .int 8, .int 9]
def aboutOver (below : List Frame) : State where
  vm := { classes := classes, interned := interned.toArray }
  heap := heap
  slotsUsed := slotsUsed
  threads := #[{ frames := .invoking theMethod args0 :: below }]
def below0 : List Frame := [.native { method := ⟨0, 0⟩, args := #[] }]
def about1 : State := aboutOver below0
def p0 : Program := .bare "" "" ""
def e0 : Env := launch0.env 0 0 0
theorem w_frames : about1.frames = Frame.invoking theMethod args0 :: below0 := rfl
set_option maxRecDepth 65536 in
theorem w_args : argsFit about1.vm theMethod args0 = true := by decide +kernel
set_option maxRecDepth 65536 in
theorem w_heap : heapFits about1 = true := by decide +kernel
set_option maxRecDepth 65536 in
theorem w_runnable : about1.curStatus? = some .runnable := by decide +kernel
set_option maxRecDepth 65536 in
theorem w_alone : about1.alone = true := by decide +kernel
set_option maxRecDepth 65536 in
theorem w_named : about1.methodNamed? x = some theMethod := by decide +kernel
set_option maxRecDepth 65536 in
theorem w_hears : about1.hears theMethod below0 = true := by decide +kernel
set_option maxRecDepth 65536 in
theorem w_ripe : about1.ripe theMethod args0 below0 = true := by decide +kernel
theorem w_running : about1.status = .running := rfl
set_option maxRecDepth 65536 in
theorem w_room : about1.hasRoom e0.platform room_1 = true :=
  launch0.hasRoom_least _ room_1 (by decide +kernel) (by decide +kernel) (by decide +kernel) (by decide +kernel) (by decide +kernel) (by decide +kernel)
theorem allAtoms_all (ts : List Jvm.Cond) (a : Array Jvm.Value) (st : Jvm.State) : (allAtoms ts).before a st = ts.all (fun c => c.before a st) := by
  induction ts with
  | nil => rfl
  | cons c t ih =>
    show (Jvm.Cond.and c (allAtoms t)).before a st = _
    rw [Jvm.Cond.before_and, ih, List.all_cons]
def words1 : List Jvm.Cond := Jvm.Cond.code x code maxLocals ret :: tables_1
/-- a 'code' word, met by the world's own term for the bytes: nothing is compared byte by byte -/
theorem code_word {y : MethodName} {bytes : ByteArray} {mx : Nat} {rt : Option FieldType} {a : Array Value} {s : State} {m : MethodId} {meth : Method} {c : Code} (h1 : s.methodNamed? y = some m) (h2 : s.vm.method? m = some meth) (h3 : meth.code = some c) (h4 : c.code = bytes)
    (h5 : (c.maxLocals == mx && c.exceptionTable.isEmpty && decide (c.maxStack ≤ mostOperands) && decide (meth.sig.returnType = rt) && !meth.locks && decide (parseMethodDescriptor y.desc = some meth.sig)) = true) : (Jvm.Cond.code y bytes mx rt).before a s = true := by
  simp only [Bool.and_eq_true, beq_iff_eq, Bool.not_eq_true', decide_eq_true_eq] at h5
  obtain ⟨⟨⟨⟨⟨g1, g2⟩, g3⟩, g4⟩, g5⟩, g6⟩ := h5
  simp [Cond.before, Cond.holds, Cond.value, h1, h2, h3, h4, g1, g2, g3, g4, g5, g6]
def isCode : Jvm.Cond → Bool
  | .code _ _ _ _ => true
  | _ => false
theorem all_split {L : List Jvm.Cond} {P : Jvm.Cond → Bool} (h1 : L.all (fun c => isCode c || P c) = true) (h2 : ∀ c ∈ L.filter isCode, P c = true) : L.all P = true := by
  refine List.all_eq_true.mpr fun c hc => ?_
  have h := List.all_eq_true.mp h1 c hc
  rcases Bool.eq_false_or_eq_true (isCode c) with hi | hi
  · exact h2 c (List.mem_filter.mpr ⟨hc, hi⟩)
  · simpa [hi] using h
set_option maxRecDepth 65536 in
theorem w_c0 : (Jvm.Cond.code x code maxLocals ret).before args0 about1 = true := code_word (m := ⟨1, 2⟩) (meth := k1m2) (c := k1c2) (by decide +kernel) rfl rfl rfl (by decide +kernel)
set_option maxRecDepth 65536 in
theorem w_c1 : (Jvm.Cond.code ({ cls := "com/example/attestbridge/attestbridge/sync/AclPolicyIsNamePinLaw", name := "pick", desc := "(I)C" } : Jvm.MethodName) method_2_code (2 : Nat) (Option.some Jvm.ClassFile.FieldType.char)).before args0 about1 = true := code_word (m := ⟨1, 1⟩) (meth := k1m1) (c := k1c1) (by decide +kernel) rfl rfl rfl (by decide +kernel)
set_option maxRecDepth 65536 in
theorem w_c2 : (Jvm.Cond.code ({ cls := "java/lang/String", name := "<init>", desc := "([C)V" } : Jvm.MethodName) jdk_42_method_3_code (2 : Nat) (Option.none : Option Jvm.ClassFile.FieldType)).before args0 about1 = true := code_word (m := ⟨7, 1⟩) (meth := k7m1) (c := k7c1) (by decide +kernel) rfl rfl rfl (by decide +kernel)
set_option maxRecDepth 65536 in
theorem w_c3 : (Jvm.Cond.code ({ cls := "java/lang/String", name := "<init>", desc := "([CIILjava/lang/Void;)V" } : Jvm.MethodName) jdk_42_method_149_code (6 : Nat) (Option.none : Option Jvm.ClassFile.FieldType)).before args0 about1 = true := code_word (m := ⟨7, 7⟩) (meth := k7m7) (c := k7c7) (by decide +kernel) rfl rfl rfl (by decide +kernel)
set_option maxRecDepth 65536 in
theorem w_c4 : (Jvm.Cond.code ({ cls := "java/lang/Object", name := "<init>", desc := "()V" } : Jvm.MethodName) object_method_1_code (1 : Nat) (Option.none : Option Jvm.ClassFile.FieldType)).before args0 about1 = true := code_word (m := ⟨0, 0⟩) (meth := k0m0) (c := k0c0) (by decide +kernel) rfl rfl rfl (by decide +kernel)
set_option maxRecDepth 65536 in
theorem w_c5 : (Jvm.Cond.code ({ cls := "com/example/attestbridge/attestbridge/sync/AclPolicy", name := "isName", desc := "(Ljava/lang/String;)Z" } : Jvm.MethodName) prog_60_method_3_code (1 : Nat) (Option.some Jvm.ClassFile.FieldType.boolean)).before args0 about1 = true := code_word (m := ⟨9, 0⟩) (meth := k9m0) (c := k9c0) (by decide +kernel) rfl rfl rfl (by decide +kernel)
set_option maxRecDepth 65536 in
theorem w_c6 : (Jvm.Cond.code ({ cls := "java/lang/String", name := "isEmpty", desc := "()Z" } : Jvm.MethodName) jdk_42_method_55_code (1 : Nat) (Option.some Jvm.ClassFile.FieldType.boolean)).before args0 about1 = true := code_word (m := ⟨7, 3⟩) (meth := k7m3) (c := k7c3) (by decide +kernel) rfl rfl rfl (by decide +kernel)
set_option maxRecDepth 65536 in
theorem w_c7 : (Jvm.Cond.code ({ cls := "java/lang/StringUTF16", name := "compress", desc := "([CII)[B" } : Jvm.MethodName) jdk_52_method_16_code (6 : Nat) (Option.some (Jvm.ClassFile.FieldType.array Jvm.ClassFile.FieldType.byte))).before args0 about1 = true := code_word (m := ⟨10, 8⟩) (meth := k10m8) (c := k10c8) (by decide +kernel) rfl rfl rfl (by decide +kernel)
set_option maxRecDepth 65536 in
theorem w_c8 : (Jvm.Cond.code ({ cls := "java/lang/StringUTF16", name := "compress", desc := "([CI[BII)I" } : Jvm.MethodName) jdk_52_method_21_code (7 : Nat) (Option.some Jvm.ClassFile.FieldType.int)).before args0 about1 = true := code_word (m := ⟨10, 9⟩) (meth := k10m9) (c := k10c9) (by decide +kernel) rfl rfl rfl (by decide +kernel)
set_option maxRecDepth 65536 in
theorem w_c9 : (Jvm.Cond.code ({ cls := "java/lang/StringUTF16", name := "coderFromArrayLen", desc := "([BI)B" } : Jvm.MethodName) jdk_52_method_15_code (2 : Nat) (Option.some Jvm.ClassFile.FieldType.byte)).before args0 about1 = true := code_word (m := ⟨10, 7⟩) (meth := k10m7) (c := k10c7) (by decide +kernel) rfl rfl rfl (by decide +kernel)
set_option maxRecDepth 65536 in
theorem w_c10 : (Jvm.Cond.code ({ cls := "java/lang/String", name := "equals", desc := "(Ljava/lang/Object;)Z" } : Jvm.MethodName) jdk_42_method_66_code (3 : Nat) (Option.some Jvm.ClassFile.FieldType.boolean)).before args0 about1 = true := code_word (m := ⟨7, 4⟩) (meth := k7m4) (c := k7c4) (by decide +kernel) rfl rfl rfl (by decide +kernel)
set_option maxRecDepth 65536 in
theorem w_c11 : (Jvm.Cond.code ({ cls := "java/lang/StringLatin1", name := "equals", desc := "([B[B)Z" } : Jvm.MethodName) jdk_43_method_13_code (3 : Nat) (Option.some Jvm.ClassFile.FieldType.boolean)).before args0 about1 = true := code_word (m := ⟨11, 2⟩) (meth := k11m2) (c := k11c2) (by decide +kernel) rfl rfl rfl (by decide +kernel)
set_option maxRecDepth 65536 in
theorem w_c12 : (Jvm.Cond.code ({ cls := "java/lang/String", name := "indexOf", desc := "(I)I" } : Jvm.MethodName) jdk_42_method_79_code (2 : Nat) (Option.some Jvm.ClassFile.FieldType.int)).before args0 about1 = true := code_word (m := ⟨7, 5⟩) (meth := k7m5) (c := k7c5) (by decide +kernel) rfl rfl rfl (by decide +kernel)
set_option maxRecDepth 65536 in
theorem w_c13 : (Jvm.Cond.code ({ cls := "java/lang/String", name := "indexOf", desc := "(II)I" } : Jvm.MethodName) jdk_42_method_80_code (3 : Nat) (Option.some Jvm.ClassFile.FieldType.int)).before args0 about1 = true := code_word (m := ⟨7, 6⟩) (meth := k7m6) (c := k7c6) (by decide +kernel) rfl rfl rfl (by decide +kernel)
set_option maxRecDepth 65536 in
theorem w_c14 : (Jvm.Cond.code ({ cls := "java/lang/String", name := "isLatin1", desc := "()Z" } : Jvm.MethodName) jdk_42_method_154_code (1 : Nat) (Option.some Jvm.ClassFile.FieldType.boolean)).before args0 about1 = true := code_word (m := ⟨7, 9⟩) (meth := k7m9) (c := k7c9) (by decide +kernel) rfl rfl rfl (by decide +kernel)
set_option maxRecDepth 65536 in
theorem w_c15 : (Jvm.Cond.code ({ cls := "java/lang/String", name := "length", desc := "()I" } : Jvm.MethodName) jdk_42_method_54_code (1 : Nat) (Option.some Jvm.ClassFile.FieldType.int)).before args0 about1 = true := code_word (m := ⟨7, 2⟩) (meth := k7m2) (c := k7c2) (by decide +kernel) rfl rfl rfl (by decide +kernel)
set_option maxRecDepth 65536 in
theorem w_c16 : (Jvm.Cond.code ({ cls := "java/lang/String", name := "coder", desc := "()B" } : Jvm.MethodName) jdk_42_method_152_code (1 : Nat) (Option.some Jvm.ClassFile.FieldType.byte)).before args0 about1 = true := code_word (m := ⟨7, 8⟩) (meth := k7m8) (c := k7c8) (by decide +kernel) rfl rfl rfl (by decide +kernel)
set_option maxRecDepth 65536 in
theorem w_c17 : (Jvm.Cond.code ({ cls := "java/lang/StringLatin1", name := "indexOf", desc := "([BIII)I" } : Jvm.MethodName) jdk_43_method_22_code (4 : Nat) (Option.some Jvm.ClassFile.FieldType.int)).before args0 about1 = true := code_word (m := ⟨11, 3⟩) (meth := k11m3) (c := k11c3) (by decide +kernel) rfl rfl rfl (by decide +kernel)
set_option maxRecDepth 65536 in
theorem w_c18 : (Jvm.Cond.code ({ cls := "java/lang/StringLatin1", name := "canEncode", desc := "(I)Z" } : Jvm.MethodName) jdk_43_method_4_code (1 : Nat) (Option.some Jvm.ClassFile.FieldType.boolean)).before args0 about1 = true := code_word (m := ⟨11, 1⟩) (meth := k11m1) (c := k11c1) (by decide +kernel) rfl rfl rfl (by decide +kernel)
set_option maxRecDepth 65536 in
theorem w_c19 : (Jvm.Cond.code ({ cls := "java/lang/Math", name := "max", desc := "(II)I" } : Jvm.MethodName) jdk_29_method_65_code (2 : Nat) (Option.some Jvm.ClassFile.FieldType.int)).before args0 about1 = true := code_word (m := ⟨12, 1⟩) (meth := k12m1) (c := k12c1) (by decide +kernel) rfl rfl rfl (by decide +kernel)
set_option maxRecDepth 65536 in
theorem w_c20 : (Jvm.Cond.code ({ cls := "java/lang/Math", name := "min", desc := "(II)I" } : Jvm.MethodName) jdk_29_method_69_code (2 : Nat) (Option.some Jvm.ClassFile.FieldType.int)).before args0 about1 = true := code_word (m := ⟨12, 2⟩) (meth := k12m2) (c := k12c2) (by decide +kernel) rfl rfl rfl (by decide +kernel)
set_option maxRecDepth 65536 in
theorem w_c21 : (Jvm.Cond.code ({ cls := "java/lang/StringLatin1", name := "indexOfChar", desc := "([BIII)I" } : Jvm.MethodName) jdk_43_method_23_code (6 : Nat) (Option.some Jvm.ClassFile.FieldType.int)).before args0 about1 = true := code_word (m := ⟨11, 4⟩) (meth := k11m4) (c := k11c4) (by decide +kernel) rfl rfl rfl (by decide +kernel)
set_option maxRecDepth 65536 in
theorem w_c22 : (Jvm.Cond.code ({ cls := "java/lang/StringUTF16", name := "toBytes", desc := "([CII)[B" } : Jvm.MethodName) jdk_52_method_14_code (5 : Nat) (Option.some (Jvm.ClassFile.FieldType.array Jvm.ClassFile.FieldType.byte))).before args0 about1 = true := code_word (m := ⟨10, 6⟩) (meth := k10m6) (c := k10c6) (by decide +kernel) rfl rfl rfl (by decide +kernel)
set_option maxRecDepth 65536 in
theorem w_c23 : (Jvm.Cond.code ({ cls := "java/lang/StringUTF16", name := "newBytesFor", desc := "(I)[B" } : Jvm.MethodName) jdk_52_method_2_code (1 : Nat) (Option.some (Jvm.ClassFile.FieldType.array Jvm.ClassFile.FieldType.byte))).before args0 about1 = true := code_word (m := ⟨10, 1⟩) (meth := k10m1) (c := k10c1) (by decide +kernel) rfl rfl rfl (by decide +kernel)
set_option maxRecDepth 65536 in
theorem w_c24 : (Jvm.Cond.code ({ cls := "java/lang/StringUTF16", name := "newBytesLength", desc := "(I)I" } : Jvm.MethodName) jdk_52_method_3_code (1 : Nat) (Option.some Jvm.ClassFile.FieldType.int)).before args0 about1 = true := code_word (m := ⟨10, 2⟩) (meth := k10m2) (c := k10c2) (by decide +kernel) rfl rfl rfl (by decide +kernel)
set_option maxRecDepth 65536 in
theorem w_c25 : (Jvm.Cond.code ({ cls := "java/lang/StringUTF16", name := "putChar", desc := "([BII)V" } : Jvm.MethodName) jdk_52_method_4_code (3 : Nat) (Option.none : Option Jvm.ClassFile.FieldType)).before args0 about1 = true := code_word (m := ⟨10, 3⟩) (meth := k10m3) (c := k10c3) (by decide +kernel) rfl rfl rfl (by decide +kernel)
set_option maxRecDepth 65536 in
theorem w_c26 : (Jvm.Cond.code ({ cls := "java/lang/StringUTF16", name := "getChar", desc := "([BI)C" } : Jvm.MethodName) jdk_52_method_5_code (2 : Nat) (Option.some Jvm.ClassFile.FieldType.char)).before args0 about1 = true := code_word (m := ⟨10, 4⟩) (meth := k10m4) (c := k10c4) (by decide +kernel) rfl rfl rfl (by decide +kernel)
set_option maxRecDepth 65536 in
theorem w_c27 : (Jvm.Cond.code ({ cls := "java/lang/StringUTF16", name := "indexOf", desc := "([BIII)I" } : Jvm.MethodName) jdk_52_method_40_code (4 : Nat) (Option.some Jvm.ClassFile.FieldType.int)).before args0 about1 = true := code_word (m := ⟨10, 10⟩) (meth := k10m10) (c := k10c10) (by decide +kernel) rfl rfl rfl (by decide +kernel)
set_option maxRecDepth 65536 in
theorem w_c28 : (Jvm.Cond.code ({ cls := "java/lang/StringUTF16", name := "indexOfChar", desc := "([BIII)I" } : Jvm.MethodName) jdk_52_method_47_code (4 : Nat) (Option.some Jvm.ClassFile.FieldType.int)).before args0 about1 = true := code_word (m := ⟨10, 11⟩) (meth := k10m11) (c := k10c11) (by decide +kernel) rfl rfl rfl (by decide +kernel)
set_option maxRecDepth 65536 in
theorem w_c29 : (Jvm.Cond.code ({ cls := "java/lang/StringUTF16", name := "checkBoundsBeginEnd", desc := "(II[B)V" } : Jvm.MethodName) jdk_52_method_93_code (3 : Nat) (Option.none : Option Jvm.ClassFile.FieldType)).before args0 about1 = true := code_word (m := ⟨10, 13⟩) (meth := k10m13) (c := k10c13) (by decide +kernel) rfl rfl rfl (by decide +kernel)
set_option maxRecDepth 65536 in
theorem w_c30 : (Jvm.Cond.code ({ cls := "java/lang/StringUTF16", name := "length", desc := "([B)I" } : Jvm.MethodName) jdk_52_method_6_code (1 : Nat) (Option.some Jvm.ClassFile.FieldType.int)).before args0 about1 = true := code_word (m := ⟨10, 5⟩) (meth := k10m5) (c := k10c5) (by decide +kernel) rfl rfl rfl (by decide +kernel)
set_option maxRecDepth 65536 in
theorem w_c31 : (Jvm.Cond.code ({ cls := "java/lang/String", name := "checkBoundsBeginEnd", desc := "(III)V" } : Jvm.MethodName) jdk_42_method_158_code (3 : Nat) (Option.none : Option Jvm.ClassFile.FieldType)).before args0 about1 = true := code_word (m := ⟨7, 10⟩) (meth := k7m10) (c := k7c10) (by decide +kernel) rfl rfl rfl (by decide +kernel)
set_option maxRecDepth 65536 in
theorem w_c32 : (Jvm.Cond.code ({ cls := "jdk/internal/util/Preconditions", name := "checkFromToIndex", desc := "(IIILjava/util/function/BiFunction;)I" } : Jvm.MethodName) jdk_41_method_12_code (4 : Nat) (Option.some Jvm.ClassFile.FieldType.int)).before args0 about1 = true := code_word (m := ⟨13, 1⟩) (meth := k13m1) (c := k13c1) (by decide +kernel) rfl rfl rfl (by decide +kernel)
set_option maxRecDepth 65536 in
theorem w_c33 : (Jvm.Cond.code ({ cls := "java/lang/StringUTF16", name := "indexOfCharUnsafe", desc := "([BIII)I" } : Jvm.MethodName) jdk_52_method_48_code (5 : Nat) (Option.some Jvm.ClassFile.FieldType.int)).before args0 about1 = true := code_word (m := ⟨10, 12⟩) (meth := k10m12) (c := k10c12) (by decide +kernel) rfl rfl rfl (by decide +kernel)
def codes1 : List Jvm.Cond := [Jvm.Cond.code x code maxLocals ret, Jvm.Cond.code ({ cls := "com/example/attestbridge/attestbridge/sync/AclPolicyIsNamePinLaw", name := "pick", desc := "(I)C" } : Jvm.MethodName) method_2_code (2 : Nat) (Option.some Jvm.ClassFile.FieldType.char), Jvm.Cond.code ({ cls := "java/lang/String", name := "<init>", desc := "([C)V" } : Jvm.MethodName) jdk_42_method_3_code (2 : Nat) (Option.none : Option Jvm.ClassFile.FieldType), Jvm.Cond.code ({ cls := "java/lang/String", name := "<init>", desc := "([CIILjava/lang/Void;)V" } : Jvm.MethodName) jdk_42_method_149_code (6 : Nat) (Option.none : Option Jvm.ClassFile.FieldType), Jvm.Cond.code ({ cls := "java/lang/Object", name := "<init>", desc := "()V" } : Jvm.MethodName) object_method_1_code (1 : Nat) (Option.none : Option Jvm.ClassFile.FieldType), Jvm.Cond.code ({ cls := "com/example/attestbridge/attestbridge/sync/AclPolicy", name := "isName", desc := "(Ljava/lang/String;)Z" } : Jvm.MethodName) prog_60_method_3_code (1 : Nat) (Option.some Jvm.ClassFile.FieldType.boolean), Jvm.Cond.code ({ cls := "java/lang/String", name := "isEmpty", desc := "()Z" } : Jvm.MethodName) jdk_42_method_55_code (1 : Nat) (Option.some Jvm.ClassFile.FieldType.boolean), Jvm.Cond.code ({ cls := "java/lang/StringUTF16", name := "compress", desc := "([CII)[B" } : Jvm.MethodName) jdk_52_method_16_code (6 : Nat) (Option.some (Jvm.ClassFile.FieldType.array Jvm.ClassFile.FieldType.byte)), Jvm.Cond.code ({ cls := "java/lang/StringUTF16", name := "compress", desc := "([CI[BII)I" } : Jvm.MethodName) jdk_52_method_21_code (7 : Nat) (Option.some Jvm.ClassFile.FieldType.int), Jvm.Cond.code ({ cls := "java/lang/StringUTF16", name := "coderFromArrayLen", desc := "([BI)B" } : Jvm.MethodName) jdk_52_method_15_code (2 : Nat) (Option.some Jvm.ClassFile.FieldType.byte), Jvm.Cond.code ({ cls := "java/lang/String", name := "equals", desc := "(Ljava/lang/Object;)Z" } : Jvm.MethodName) jdk_42_method_66_code (3 : Nat) (Option.some Jvm.ClassFile.FieldType.boolean), Jvm.Cond.code ({ cls := "java/lang/StringLatin1", name := "equals", desc := "([B[B)Z" } : Jvm.MethodName) jdk_43_method_13_code (3 : Nat) (Option.some Jvm.ClassFile.FieldType.boolean), Jvm.Cond.code ({ cls := "java/lang/String", name := "indexOf", desc := "(I)I" } : Jvm.MethodName) jdk_42_method_79_code (2 : Nat) (Option.some Jvm.ClassFile.FieldType.int), Jvm.Cond.code ({ cls := "java/lang/String", name := "indexOf", desc := "(II)I" } : Jvm.MethodName) jdk_42_method_80_code (3 : Nat) (Option.some Jvm.ClassFile.FieldType.int), Jvm.Cond.code ({ cls := "java/lang/String", name := "isLatin1", desc := "()Z" } : Jvm.MethodName) jdk_42_method_154_code (1 : Nat) (Option.some Jvm.ClassFile.FieldType.boolean), Jvm.Cond.code ({ cls := "java/lang/String", name := "length", desc := "()I" } : Jvm.MethodName) jdk_42_method_54_code (1 : Nat) (Option.some Jvm.ClassFile.FieldType.int), Jvm.Cond.code ({ cls := "java/lang/String", name := "coder", desc := "()B" } : Jvm.MethodName) jdk_42_method_152_code (1 : Nat) (Option.some Jvm.ClassFile.FieldType.byte), Jvm.Cond.code ({ cls := "java/lang/StringLatin1", name := "indexOf", desc := "([BIII)I" } : Jvm.MethodName) jdk_43_method_22_code (4 : Nat) (Option.some Jvm.ClassFile.FieldType.int), Jvm.Cond.code ({ cls := "java/lang/StringLatin1", name := "canEncode", desc := "(I)Z" } : Jvm.MethodName) jdk_43_method_4_code (1 : Nat) (Option.some Jvm.ClassFile.FieldType.boolean), Jvm.Cond.code ({ cls := "java/lang/Math", name := "max", desc := "(II)I" } : Jvm.MethodName) jdk_29_method_65_code (2 : Nat) (Option.some Jvm.ClassFile.FieldType.int), Jvm.Cond.code ({ cls := "java/lang/Math", name := "min", desc := "(II)I" } : Jvm.MethodName) jdk_29_method_69_code (2 : Nat) (Option.some Jvm.ClassFile.FieldType.int), Jvm.Cond.code ({ cls := "java/lang/StringLatin1", name := "indexOfChar", desc := "([BIII)I" } : Jvm.MethodName) jdk_43_method_23_code (6 : Nat) (Option.some Jvm.ClassFile.FieldType.int), Jvm.Cond.code ({ cls := "java/lang/StringUTF16", name := "toBytes", desc := "([CII)[B" } : Jvm.MethodName) jdk_52_method_14_code (5 : Nat) (Option.some (Jvm.ClassFile.FieldType.array Jvm.ClassFile.FieldType.byte)), Jvm.Cond.code ({ cls := "java/lang/StringUTF16", name := "newBytesFor", desc := "(I)[B" } : Jvm.MethodName) jdk_52_method_2_code (1 : Nat) (Option.some (Jvm.ClassFile.FieldType.array Jvm.ClassFile.FieldType.byte)), Jvm.Cond.code ({ cls := "java/lang/StringUTF16", name := "newBytesLength", desc := "(I)I" } : Jvm.MethodName) jdk_52_method_3_code (1 : Nat) (Option.some Jvm.ClassFile.FieldType.int), Jvm.Cond.code ({ cls := "java/lang/StringUTF16", name := "putChar", desc := "([BII)V" } : Jvm.MethodName) jdk_52_method_4_code (3 : Nat) (Option.none : Option Jvm.ClassFile.FieldType), Jvm.Cond.code ({ cls := "java/lang/StringUTF16", name := "getChar", desc := "([BI)C" } : Jvm.MethodName) jdk_52_method_5_code (2 : Nat) (Option.some Jvm.ClassFile.FieldType.char), Jvm.Cond.code ({ cls := "java/lang/StringUTF16", name := "indexOf", desc := "([BIII)I" } : Jvm.MethodName) jdk_52_method_40_code (4 : Nat) (Option.some Jvm.ClassFile.FieldType.int), Jvm.Cond.code ({ cls := "java/lang/StringUTF16", name := "indexOfChar", desc := "([BIII)I" } : Jvm.MethodName) jdk_52_method_47_code (4 : Nat) (Option.some Jvm.ClassFile.FieldType.int), Jvm.Cond.code ({ cls := "java/lang/StringUTF16", name := "checkBoundsBeginEnd", desc := "(II[B)V" } : Jvm.MethodName) jdk_52_method_93_code (3 : Nat) (Option.none : Option Jvm.ClassFile.FieldType), Jvm.Cond.code ({ cls := "java/lang/StringUTF16", name := "length", desc := "([B)I" } : Jvm.MethodName) jdk_52_method_6_code (1 : Nat) (Option.some Jvm.ClassFile.FieldType.int), Jvm.Cond.code ({ cls := "java/lang/String", name := "checkBoundsBeginEnd", desc := "(III)V" } : Jvm.MethodName) jdk_42_method_158_code (3 : Nat) (Option.none : Option Jvm.ClassFile.FieldType), Jvm.Cond.code ({ cls := "jdk/internal/util/Preconditions", name := "checkFromToIndex", desc := "(IIILjava/util/function/BiFunction;)I" } : Jvm.MethodName) jdk_41_method_12_code (4 : Nat) (Option.some Jvm.ClassFile.FieldType.int), Jvm.Cond.code ({ cls := "java/lang/StringUTF16", name := "indexOfCharUnsafe", desc := "([BIII)I" } : Jvm.MethodName) jdk_52_method_48_code (5 : Nat) (Option.some Jvm.ClassFile.FieldType.int)]
set_option maxRecDepth 65536 in
theorem codes_eq : words1.filter isCode = codes1 := rfl
theorem w_codes : ∀ c ∈ words1.filter isCode, c.before args0 about1 = true := by
  rw [codes_eq]
  intro c hc
  simp only [codes1, List.mem_cons, List.not_mem_nil, or_false] at hc
  rcases hc with rfl | rfl | rfl | rfl | rfl | rfl | rfl | rfl | rfl | rfl | rfl | rfl | rfl | rfl | rfl | rfl | rfl | rfl | rfl | rfl | rfl | rfl | rfl | rfl | rfl | rfl | rfl | rfl | rfl | rfl | rfl | rfl | rfl | rfl
  · exact w_c0
  · exact w_c1
  · exact w_c2
  · exact w_c3
  · exact w_c4
  · exact w_c5
  · exact w_c6
  · exact w_c7
  · exact w_c8
  · exact w_c9
  · exact w_c10
  · exact w_c11
  · exact w_c12
  · exact w_c13
  · exact w_c14
  · exact w_c15
  · exact w_c16
  · exact w_c17
  · exact w_c18
  · exact w_c19
  · exact w_c20
  · exact w_c21
  · exact w_c22
  · exact w_c23
  · exact w_c24
  · exact w_c25
  · exact w_c26
  · exact w_c27
  · exact w_c28
  · exact w_c29
  · exact w_c30
  · exact w_c31
  · exact w_c32
  · exact w_c33
set_option maxRecDepth 65536 in
theorem w_t1 : (words1.take 24).all (fun c => isCode c || c.before args0 about1) = true := by decide +kernel
set_option maxRecDepth 65536 in
theorem w_t2 : ((words1.drop 24).take 24).all (fun c => isCode c || c.before args0 about1) = true := by decide +kernel
set_option maxRecDepth 65536 in
theorem w_t3 : (((words1.drop 24).drop 24).take 24).all (fun c => isCode c || c.before args0 about1) = true := by decide +kernel
set_option maxRecDepth 65536 in
theorem w_t4 : ((((words1.drop 24).drop 24).drop 24).take 24).all (fun c => isCode c || c.before args0 about1) = true := by decide +kernel
set_option maxRecDepth 65536 in
theorem w_t5 : (((((words1.drop 24).drop 24).drop 24).drop 24).take 24).all (fun c => isCode c || c.before args0 about1) = true := by decide +kernel
set_option maxRecDepth 65536 in
theorem w_t6 : ((((((words1.drop 24).drop 24).drop 24).drop 24).drop 24).take 24).all (fun c => isCode c || c.before args0 about1) = true := by decide +kernel
set_option maxRecDepth 65536 in
theorem w_t7 : ((((((words1.drop 24).drop 24).drop 24).drop 24).drop 24).drop 24).all (fun c => isCode c || c.before args0 about1) = true := by decide +kernel
theorem w_tables : (allAtoms (Jvm.Cond.code x code maxLocals ret :: tables_1)).before args0 about1 = true := by
  rw [allAtoms_all]
  show words1.all (fun c => c.before args0 about1) = true
  refine all_split ?_ w_codes
  rw [← List.take_append_drop 24 words1, List.all_append, w_t1, ← List.take_append_drop 24 (words1.drop 24), List.all_append, w_t2, ← List.take_append_drop 24 ((words1.drop 24).drop 24), List.all_append, w_t3, ← List.take_append_drop 24 (((words1.drop 24).drop 24).drop 24), List.all_append, w_t4, ← List.take_append_drop 24 ((((words1.drop 24).drop 24).drop 24).drop 24), List.all_append, w_t5, ← List.take_append_drop 24 (((((words1.drop 24).drop 24).drop 24).drop 24).drop 24), List.all_append, w_t6, w_t7]
  rfl
set_option maxRecDepth 65536 in
theorem w_rest : rest_1_c.before args0 about1 = true := by decide +kernel
set_option maxRecDepth 65536 in
theorem w_case : (Jvm.Cond.and given_1 narrow_1).before args0 about1 = true := by decide +kernel
set_option maxRecDepth 65536 in
theorem w_consts : constsHeld consts_1 about1 := Jvm.Lit.constsHeldB_iff.mp (by decide +kernel)
theorem w_applies : (headSpec (Jvm.Cond.code x code maxLocals ret :: tables_1) room_1).applies x e0.platform about1 = true :=
  (Spec.applies_iff w_frames).mpr ⟨w_running, w_runnable, w_alone, w_named, w_hears, w_ripe, w_room, w_tables⟩
theorem atStart : AtStart classFile x code maxLocals ret World_1 tables_1 room_1 Calls_1 rest_1 Pre_1 launch0 p0 e0 about1 theMethod args0 below0 :=
  ⟨lists_1, trivial, launch0.admits_env _ _ _, launch0.least_env, fairChoices_fair.cas, fairChoices_fair.clock, w_frames, w_args, w_heap, w_applies, ⟨w_consts, trivial⟩, w_rest, w_case⟩
end start1
theorem witness_1 : WitnessClaimed_1 := ⟨start1.p0, start1.e0, start1.about1, start1.theMethod, start1.args0, start1.below0, start1.atStart⟩
end Jvm.Pilot.@@N@@
